/-
  NARROWER THAN 'FOR EVERY INPUT', by the rows' own cells (each row's printed sentence says how): FnRegexpTwice: laid · FnGroupJust: laid · FnGroupMany: laid · FnGroupMore: laid · FnGroupOpt: laid · FnGroupPlain: laid · FnGroupPlainAny: laid · FnGroupPlainText: laid · FnRegexpAny: laid · FnRegexpFault: laid · FnRegexpStar: laid · FnRegexpText: laid.
  DERIVED. THE GIVEN ROWS OF THIS SEAT. 12 by the template 'for every input the law returns true; each argument reads behind the call as it read before'; 0 by the template 'total and deterministic' (their statements: YtjoefmnkbcoblaaFmtTotals.lean).
  GIVEN WITH THE SEED: the statements are not yours to turn. If you find one false, say at which input.
  Laid BY PROGRAM, IN A SANDBOX (cutbox-rows.mjs): the forced cells as the released guide's own fill.sh prints them over the translation 9f699b7b281de769… (all of the seat's roots in one cut). By AI agents, Wed Nov 11 2026. No macro, syntax, notation, axiom, sorry.
-/
import Derived.Test.YtjoefmnkbcoblaaFmtChecked
import GoSem.PinnedTables
import GoSem.Claim
import GoSem.ClaimJoined
import GoSem.ClaimMapViews
import Derived.JoinedTies
import Derived.KernelRfl
namespace Go.Proofs.YtjoefmnkbcoblaaFmt
/- THE CELL 'sum', in the pinned program and in every row, IS THE sha256 OF THE DUMP (.gsa) THAT YtjoefmnkbcoblaaFmtProg.lean LOADS. Nothing in Lean hashes anything: it is a label: what it is worth is what the hold of that sum in a sandbox is worth. -/
noncomputable def Tryf.pinned : Pinned := { name := "ytjoefmnkbcoblaafmt", sum := "9f699b7b281de769a7d3b93adee16d66c0be2580f99033dbaf914755e177c412", checked := Tryf.checked }
namespace Rows
def none {H : Type} : Left H := { results := [], args := [] }

/- WHAT THE LISTED PACKAGE-LEVEL VARIABLES READ AS WHEN THE CALL BEGINS. Each datum BY PROGRAM (the guide's laid-datum.mjs) off the statement by which the dump's own 'gosem.cut.vars' lays the variable. In a bare row this is a premise. The card (YtjoefmnkbcoblaaFmtCards.lean) ties it to the program's text. -/
def laid_unicode_utf8_acceptRanges {H : Type} : DataW H := .agg [.agg [.lit (.int .u8 128), .lit (.int .u8 191)], .agg [.lit (.int .u8 160), .lit (.int .u8 191)], .agg [.lit (.int .u8 128), .lit (.int .u8 159)], .agg [.lit (.int .u8 144), .lit (.int .u8 191)], .agg [.lit (.int .u8 128), .lit (.int .u8 143)], .agg [.lit (.int .u8 0), .lit (.int .u8 0)], .agg [.lit (.int .u8 0), .lit (.int .u8 0)], .agg [.lit (.int .u8 0), .lit (.int .u8 0)], .agg [.lit (.int .u8 0), .lit (.int .u8 0)], .agg [.lit (.int .u8 0), .lit (.int .u8 0)], .agg [.lit (.int .u8 0), .lit (.int .u8 0)], .agg [.lit (.int .u8 0), .lit (.int .u8 0)], .agg [.lit (.int .u8 0), .lit (.int .u8 0)], .agg [.lit (.int .u8 0), .lit (.int .u8 0)], .agg [.lit (.int .u8 0), .lit (.int .u8 0)], .agg [.lit (.int .u8 0), .lit (.int .u8 0)]]
def laid_errors_errorType {H : Type} : DataW H := .iface "internal/reflectlite.rtype" (.agg [.ptr (.lit (.string [101, 114, 114, 111, 114]))])
def laid_io_EOF {H : Type} : DataW H := .iface "*errors.errorString" (.ptr (.agg [.lit (.string [69, 79, 70])]))
def laid_loop_example_pub_shellpatterns_spec_classNames {H : Type} : DataW H := .slice [.lit (.string []), .lit (.string [97, 108, 110, 117, 109]), .lit (.string [97, 108, 112, 104, 97]), .lit (.string [98, 108, 97, 110, 107]), .lit (.string [99, 110, 116, 114, 108]), .lit (.string [100, 105, 103, 105, 116]), .lit (.string [103, 114, 97, 112, 104]), .lit (.string [108, 111, 119, 101, 114]), .lit (.string [112, 114, 105, 110, 116]), .lit (.string [112, 117, 110, 99, 116]), .lit (.string [115, 112, 97, 99, 101]), .lit (.string [117, 112, 112, 101, 114]), .lit (.string [120, 100, 105, 103, 105, 116])] []
def laid_loop_example_pub_shellpatterns_spec_ranges {H : Type} : DataW H := .slice [.lit (.string []), .lit (.string [48, 57, 65, 90, 97, 122]), .lit (.string [65, 90, 97, 122]), .lit (.string [9, 9, 32, 32]), .lit (.string [0, 31, 127, 127]), .lit (.string [48, 57]), .lit (.string [33, 126]), .lit (.string [97, 122]), .lit (.string [32, 126]), .lit (.string [33, 47, 58, 64, 91, 96, 123, 126]), .lit (.string [9, 13, 32, 32]), .lit (.string [65, 90]), .lit (.string [48, 57, 65, 70, 97, 102])] []
/-- One of Go's own tables, pinned by name: the form's constant. -/
def laid_unicode_utf8_first : DataW Unit := Go.Pinned.utf8First

/-- 'laws.FnRegexpTwice': WHATEVER THE INPUT: true; the input reads as it did. -/
def fnRegexpTwiceSpec : ChangeSpec := { name := "fnRegexpTwice", vars := ["loop.example/pub-shellpatterns/spec.classNames", "loop.example/pub-shellpatterns/spec.ranges"], fn := fun _ => fun
  | [d1, d2, g1, g2] => { results := [.lit (.bool true)], args := [d1, d2], vars := [g1, g2] }
  | _ => none }
def fnRegexpTwiceRow : OpenClaim := { program := "ytjoefmnkbcoblaafmt", sum := "9f699b7b281de769a7d3b93adee16d66c0be2580f99033dbaf914755e177c412", func := "loop.example/pub-shellpatterns/laws.FnRegexpTwice", spec := "fnRegexpTwice", stops := ["fmt.Sprintf", "fmt.errorf"], inPlace := ["internal/abi.NoEscape", "fmt.Sprintf", "fmt.errorf", "internal/reflectlite.ValueOf", "(internal/reflectlite.Value).Type", "(internal/reflectlite.Value).IsNil", "internal/reflectlite.TypeOf", "(internal/reflectlite.Value).Elem", "(internal/reflectlite.Value).Set"], unfollowed := true, recurses := true, named := ["io.EOF", "unicode/utf8.first", "unicode/utf8.acceptRanges", "errors.errorType", "loop.example/pub-shellpatterns/spec.classNames", "loop.example/pub-shellpatterns/spec.ranges"], apart := false, laid := [("unicode/utf8.acceptRanges", laid_unicode_utf8_acceptRanges), ("errors.errorType", laid_errors_errorType), ("io.EOF", laid_io_EOF), ("loop.example/pub-shellpatterns/spec.classNames", laid_loop_example_pub_shellpatterns_spec_classNames), ("loop.example/pub-shellpatterns/spec.ranges", laid_loop_example_pub_shellpatterns_spec_ranges), ("unicode/utf8.first", laid_unicode_utf8_first)] }
/-- NO THEOREM (fmt's text is open here; it may be false): for the released tool's asking of the row's closed facts alone. THE STATEMENT IS 'FnRegexpTwiceToldSaid' (YtjoefmnkbcoblaaFmtCards.lean). -/
def FnRegexpTwiceFormAsk : Prop := fnRegexpTwiceRow.holds Tryf.pinned (OpenSpec.ofChange fnRegexpTwiceSpec)

/-- ITS FALSE NEIGHBOUR: 'it returns false'. Refute it at one input. -/
def fnRegexpTwiceWrong : ChangeSpec := { name := "fnRegexpTwice", vars := ["loop.example/pub-shellpatterns/spec.classNames", "loop.example/pub-shellpatterns/spec.ranges"], fn := fun _ => fun
  | [d1, d2, g1, g2] => { results := [.lit (.bool false)], args := [d1, d2], vars := [g1, g2] }
  | _ => none }
def FnRegexpTwiceWrongFormAsk : Prop := fnRegexpTwiceRow.holds Tryf.pinned (OpenSpec.ofChange fnRegexpTwiceWrong)

/-- 'laws.FnGroupJust': WHATEVER THE INPUT: true; the input reads as it did. -/
def fnGroupJustSpec : ChangeSpec := { name := "fnGroupJust", vars := ["loop.example/pub-shellpatterns/spec.classNames", "loop.example/pub-shellpatterns/spec.ranges"], fn := fun _ => fun
  | [d1, d2, g1, g2] => { results := [.lit (.bool true)], args := [d1, d2], vars := [g1, g2] }
  | _ => none }
def fnGroupJustRow : OpenClaim := { program := "ytjoefmnkbcoblaafmt", sum := "9f699b7b281de769a7d3b93adee16d66c0be2580f99033dbaf914755e177c412", func := "loop.example/pub-shellpatterns/laws.FnGroupJust", spec := "fnGroupJust", stops := ["fmt.Sprintf", "fmt.errorf"], inPlace := ["internal/abi.NoEscape", "fmt.Sprintf", "fmt.errorf", "internal/reflectlite.ValueOf", "(internal/reflectlite.Value).Type", "(internal/reflectlite.Value).IsNil", "internal/reflectlite.TypeOf", "(internal/reflectlite.Value).Elem", "(internal/reflectlite.Value).Set"], unfollowed := true, recurses := true, named := ["io.EOF", "unicode/utf8.first", "unicode/utf8.acceptRanges", "errors.errorType", "loop.example/pub-shellpatterns/spec.classNames", "loop.example/pub-shellpatterns/spec.ranges"], apart := false, laid := [("unicode/utf8.acceptRanges", laid_unicode_utf8_acceptRanges), ("errors.errorType", laid_errors_errorType), ("io.EOF", laid_io_EOF), ("loop.example/pub-shellpatterns/spec.classNames", laid_loop_example_pub_shellpatterns_spec_classNames), ("loop.example/pub-shellpatterns/spec.ranges", laid_loop_example_pub_shellpatterns_spec_ranges), ("unicode/utf8.first", laid_unicode_utf8_first)] }
/-- NO THEOREM (fmt's text is open here; it may be false): for the released tool's asking of the row's closed facts alone. THE STATEMENT IS 'FnGroupJustToldSaid' (YtjoefmnkbcoblaaFmtCards.lean). -/
def FnGroupJustFormAsk : Prop := fnGroupJustRow.holds Tryf.pinned (OpenSpec.ofChange fnGroupJustSpec)

/-- ITS FALSE NEIGHBOUR: 'it returns false'. Refute it at one input. -/
def fnGroupJustWrong : ChangeSpec := { name := "fnGroupJust", vars := ["loop.example/pub-shellpatterns/spec.classNames", "loop.example/pub-shellpatterns/spec.ranges"], fn := fun _ => fun
  | [d1, d2, g1, g2] => { results := [.lit (.bool false)], args := [d1, d2], vars := [g1, g2] }
  | _ => none }
def FnGroupJustWrongFormAsk : Prop := fnGroupJustRow.holds Tryf.pinned (OpenSpec.ofChange fnGroupJustWrong)

/-- 'laws.FnGroupMany': WHATEVER THE INPUT: true; the input reads as it did. -/
def fnGroupManySpec : ChangeSpec := { name := "fnGroupMany", vars := ["loop.example/pub-shellpatterns/spec.classNames", "loop.example/pub-shellpatterns/spec.ranges"], fn := fun _ => fun
  | [d1, d2, g1, g2] => { results := [.lit (.bool true)], args := [d1, d2], vars := [g1, g2] }
  | _ => none }
def fnGroupManyRow : OpenClaim := { program := "ytjoefmnkbcoblaafmt", sum := "9f699b7b281de769a7d3b93adee16d66c0be2580f99033dbaf914755e177c412", func := "loop.example/pub-shellpatterns/laws.FnGroupMany", spec := "fnGroupMany", stops := ["fmt.Sprintf", "fmt.errorf"], inPlace := ["internal/abi.NoEscape", "fmt.Sprintf", "fmt.errorf", "internal/reflectlite.ValueOf", "(internal/reflectlite.Value).Type", "(internal/reflectlite.Value).IsNil", "internal/reflectlite.TypeOf", "(internal/reflectlite.Value).Elem", "(internal/reflectlite.Value).Set"], unfollowed := true, recurses := true, named := ["io.EOF", "unicode/utf8.first", "unicode/utf8.acceptRanges", "errors.errorType", "loop.example/pub-shellpatterns/spec.classNames", "loop.example/pub-shellpatterns/spec.ranges"], apart := false, laid := [("unicode/utf8.acceptRanges", laid_unicode_utf8_acceptRanges), ("errors.errorType", laid_errors_errorType), ("io.EOF", laid_io_EOF), ("loop.example/pub-shellpatterns/spec.classNames", laid_loop_example_pub_shellpatterns_spec_classNames), ("loop.example/pub-shellpatterns/spec.ranges", laid_loop_example_pub_shellpatterns_spec_ranges), ("unicode/utf8.first", laid_unicode_utf8_first)] }
/-- NO THEOREM (fmt's text is open here; it may be false): for the released tool's asking of the row's closed facts alone. THE STATEMENT IS 'FnGroupManyToldSaid' (YtjoefmnkbcoblaaFmtCards.lean). -/
def FnGroupManyFormAsk : Prop := fnGroupManyRow.holds Tryf.pinned (OpenSpec.ofChange fnGroupManySpec)

/-- ITS FALSE NEIGHBOUR: 'it returns false'. Refute it at one input. -/
def fnGroupManyWrong : ChangeSpec := { name := "fnGroupMany", vars := ["loop.example/pub-shellpatterns/spec.classNames", "loop.example/pub-shellpatterns/spec.ranges"], fn := fun _ => fun
  | [d1, d2, g1, g2] => { results := [.lit (.bool false)], args := [d1, d2], vars := [g1, g2] }
  | _ => none }
def FnGroupManyWrongFormAsk : Prop := fnGroupManyRow.holds Tryf.pinned (OpenSpec.ofChange fnGroupManyWrong)

/-- 'laws.FnGroupMore': WHATEVER THE INPUT: true; the input reads as it did. -/
def fnGroupMoreSpec : ChangeSpec := { name := "fnGroupMore", vars := ["loop.example/pub-shellpatterns/spec.classNames", "loop.example/pub-shellpatterns/spec.ranges"], fn := fun _ => fun
  | [d1, d2, g1, g2] => { results := [.lit (.bool true)], args := [d1, d2], vars := [g1, g2] }
  | _ => none }
def fnGroupMoreRow : OpenClaim := { program := "ytjoefmnkbcoblaafmt", sum := "9f699b7b281de769a7d3b93adee16d66c0be2580f99033dbaf914755e177c412", func := "loop.example/pub-shellpatterns/laws.FnGroupMore", spec := "fnGroupMore", stops := ["fmt.Sprintf", "fmt.errorf"], inPlace := ["internal/abi.NoEscape", "fmt.Sprintf", "fmt.errorf", "internal/reflectlite.ValueOf", "(internal/reflectlite.Value).Type", "(internal/reflectlite.Value).IsNil", "internal/reflectlite.TypeOf", "(internal/reflectlite.Value).Elem", "(internal/reflectlite.Value).Set"], unfollowed := true, recurses := true, named := ["io.EOF", "unicode/utf8.first", "unicode/utf8.acceptRanges", "errors.errorType", "loop.example/pub-shellpatterns/spec.classNames", "loop.example/pub-shellpatterns/spec.ranges"], apart := false, laid := [("unicode/utf8.acceptRanges", laid_unicode_utf8_acceptRanges), ("errors.errorType", laid_errors_errorType), ("io.EOF", laid_io_EOF), ("loop.example/pub-shellpatterns/spec.classNames", laid_loop_example_pub_shellpatterns_spec_classNames), ("loop.example/pub-shellpatterns/spec.ranges", laid_loop_example_pub_shellpatterns_spec_ranges), ("unicode/utf8.first", laid_unicode_utf8_first)] }
/-- NO THEOREM (fmt's text is open here; it may be false): for the released tool's asking of the row's closed facts alone. THE STATEMENT IS 'FnGroupMoreToldSaid' (YtjoefmnkbcoblaaFmtCards.lean). -/
def FnGroupMoreFormAsk : Prop := fnGroupMoreRow.holds Tryf.pinned (OpenSpec.ofChange fnGroupMoreSpec)

/-- ITS FALSE NEIGHBOUR: 'it returns false'. Refute it at one input. -/
def fnGroupMoreWrong : ChangeSpec := { name := "fnGroupMore", vars := ["loop.example/pub-shellpatterns/spec.classNames", "loop.example/pub-shellpatterns/spec.ranges"], fn := fun _ => fun
  | [d1, d2, g1, g2] => { results := [.lit (.bool false)], args := [d1, d2], vars := [g1, g2] }
  | _ => none }
def FnGroupMoreWrongFormAsk : Prop := fnGroupMoreRow.holds Tryf.pinned (OpenSpec.ofChange fnGroupMoreWrong)

/-- 'laws.FnGroupOpt': WHATEVER THE INPUT: true; the input reads as it did. -/
def fnGroupOptSpec : ChangeSpec := { name := "fnGroupOpt", vars := ["loop.example/pub-shellpatterns/spec.classNames", "loop.example/pub-shellpatterns/spec.ranges"], fn := fun _ => fun
  | [d1, d2, g1, g2] => { results := [.lit (.bool true)], args := [d1, d2], vars := [g1, g2] }
  | _ => none }
def fnGroupOptRow : OpenClaim := { program := "ytjoefmnkbcoblaafmt", sum := "9f699b7b281de769a7d3b93adee16d66c0be2580f99033dbaf914755e177c412", func := "loop.example/pub-shellpatterns/laws.FnGroupOpt", spec := "fnGroupOpt", stops := ["fmt.Sprintf", "fmt.errorf"], inPlace := ["internal/abi.NoEscape", "fmt.Sprintf", "fmt.errorf", "internal/reflectlite.ValueOf", "(internal/reflectlite.Value).Type", "(internal/reflectlite.Value).IsNil", "internal/reflectlite.TypeOf", "(internal/reflectlite.Value).Elem", "(internal/reflectlite.Value).Set"], unfollowed := true, recurses := true, named := ["io.EOF", "unicode/utf8.first", "unicode/utf8.acceptRanges", "errors.errorType", "loop.example/pub-shellpatterns/spec.classNames", "loop.example/pub-shellpatterns/spec.ranges"], apart := false, laid := [("unicode/utf8.acceptRanges", laid_unicode_utf8_acceptRanges), ("errors.errorType", laid_errors_errorType), ("io.EOF", laid_io_EOF), ("loop.example/pub-shellpatterns/spec.classNames", laid_loop_example_pub_shellpatterns_spec_classNames), ("loop.example/pub-shellpatterns/spec.ranges", laid_loop_example_pub_shellpatterns_spec_ranges), ("unicode/utf8.first", laid_unicode_utf8_first)] }
/-- NO THEOREM (fmt's text is open here; it may be false): for the released tool's asking of the row's closed facts alone. THE STATEMENT IS 'FnGroupOptToldSaid' (YtjoefmnkbcoblaaFmtCards.lean). -/
def FnGroupOptFormAsk : Prop := fnGroupOptRow.holds Tryf.pinned (OpenSpec.ofChange fnGroupOptSpec)

/-- ITS FALSE NEIGHBOUR: 'it returns false'. Refute it at one input. -/
def fnGroupOptWrong : ChangeSpec := { name := "fnGroupOpt", vars := ["loop.example/pub-shellpatterns/spec.classNames", "loop.example/pub-shellpatterns/spec.ranges"], fn := fun _ => fun
  | [d1, d2, g1, g2] => { results := [.lit (.bool false)], args := [d1, d2], vars := [g1, g2] }
  | _ => none }
def FnGroupOptWrongFormAsk : Prop := fnGroupOptRow.holds Tryf.pinned (OpenSpec.ofChange fnGroupOptWrong)

/-- 'laws.FnGroupPlain': WHATEVER THE INPUT: true; the input reads as it did. -/
def fnGroupPlainSpec : ChangeSpec := { name := "fnGroupPlain", vars := ["loop.example/pub-shellpatterns/spec.classNames", "loop.example/pub-shellpatterns/spec.ranges"], fn := fun _ => fun
  | [d1, d2, g1, g2] => { results := [.lit (.bool true)], args := [d1, d2], vars := [g1, g2] }
  | _ => none }
def fnGroupPlainRow : OpenClaim := { program := "ytjoefmnkbcoblaafmt", sum := "9f699b7b281de769a7d3b93adee16d66c0be2580f99033dbaf914755e177c412", func := "loop.example/pub-shellpatterns/laws.FnGroupPlain", spec := "fnGroupPlain", stops := ["fmt.Sprintf", "fmt.errorf"], inPlace := ["internal/abi.NoEscape", "fmt.Sprintf", "fmt.errorf", "internal/reflectlite.ValueOf", "(internal/reflectlite.Value).Type", "(internal/reflectlite.Value).IsNil", "internal/reflectlite.TypeOf", "(internal/reflectlite.Value).Elem", "(internal/reflectlite.Value).Set"], unfollowed := true, recurses := true, named := ["io.EOF", "unicode/utf8.first", "unicode/utf8.acceptRanges", "errors.errorType", "loop.example/pub-shellpatterns/spec.classNames", "loop.example/pub-shellpatterns/spec.ranges"], apart := false, laid := [("unicode/utf8.acceptRanges", laid_unicode_utf8_acceptRanges), ("errors.errorType", laid_errors_errorType), ("io.EOF", laid_io_EOF), ("loop.example/pub-shellpatterns/spec.classNames", laid_loop_example_pub_shellpatterns_spec_classNames), ("loop.example/pub-shellpatterns/spec.ranges", laid_loop_example_pub_shellpatterns_spec_ranges), ("unicode/utf8.first", laid_unicode_utf8_first)] }
/-- NO THEOREM (fmt's text is open here; it may be false): for the released tool's asking of the row's closed facts alone. THE STATEMENT IS 'FnGroupPlainToldSaid' (YtjoefmnkbcoblaaFmtCards.lean). -/
def FnGroupPlainFormAsk : Prop := fnGroupPlainRow.holds Tryf.pinned (OpenSpec.ofChange fnGroupPlainSpec)

/-- ITS FALSE NEIGHBOUR: 'it returns false'. Refute it at one input. -/
def fnGroupPlainWrong : ChangeSpec := { name := "fnGroupPlain", vars := ["loop.example/pub-shellpatterns/spec.classNames", "loop.example/pub-shellpatterns/spec.ranges"], fn := fun _ => fun
  | [d1, d2, g1, g2] => { results := [.lit (.bool false)], args := [d1, d2], vars := [g1, g2] }
  | _ => none }
def FnGroupPlainWrongFormAsk : Prop := fnGroupPlainRow.holds Tryf.pinned (OpenSpec.ofChange fnGroupPlainWrong)

/-- 'laws.FnGroupPlainAny': WHATEVER THE INPUT: true; the input reads as it did. -/
def fnGroupPlainAnySpec : ChangeSpec := { name := "fnGroupPlainAny", vars := ["loop.example/pub-shellpatterns/spec.classNames", "loop.example/pub-shellpatterns/spec.ranges"], fn := fun _ => fun
  | [d1, d2, d3, g1, g2] => { results := [.lit (.bool true)], args := [d1, d2, d3], vars := [g1, g2] }
  | _ => none }
def fnGroupPlainAnyRow : OpenClaim := { program := "ytjoefmnkbcoblaafmt", sum := "9f699b7b281de769a7d3b93adee16d66c0be2580f99033dbaf914755e177c412", func := "loop.example/pub-shellpatterns/laws.FnGroupPlainAny", spec := "fnGroupPlainAny", stops := ["fmt.Sprintf", "fmt.errorf"], inPlace := ["internal/abi.NoEscape", "fmt.Sprintf", "fmt.errorf", "internal/reflectlite.ValueOf", "(internal/reflectlite.Value).Type", "(internal/reflectlite.Value).IsNil", "internal/reflectlite.TypeOf", "(internal/reflectlite.Value).Elem", "(internal/reflectlite.Value).Set"], unfollowed := true, recurses := true, named := ["io.EOF", "unicode/utf8.first", "unicode/utf8.acceptRanges", "errors.errorType", "loop.example/pub-shellpatterns/spec.classNames", "loop.example/pub-shellpatterns/spec.ranges"], apart := false, laid := [("unicode/utf8.acceptRanges", laid_unicode_utf8_acceptRanges), ("errors.errorType", laid_errors_errorType), ("io.EOF", laid_io_EOF), ("loop.example/pub-shellpatterns/spec.classNames", laid_loop_example_pub_shellpatterns_spec_classNames), ("loop.example/pub-shellpatterns/spec.ranges", laid_loop_example_pub_shellpatterns_spec_ranges), ("unicode/utf8.first", laid_unicode_utf8_first)] }
/-- NO THEOREM (fmt's text is open here; it may be false): for the released tool's asking of the row's closed facts alone. THE STATEMENT IS 'FnGroupPlainAnyToldSaid' (YtjoefmnkbcoblaaFmtCards.lean). -/
def FnGroupPlainAnyFormAsk : Prop := fnGroupPlainAnyRow.holds Tryf.pinned (OpenSpec.ofChange fnGroupPlainAnySpec)

/-- ITS FALSE NEIGHBOUR: 'it returns false'. Refute it at one input. -/
def fnGroupPlainAnyWrong : ChangeSpec := { name := "fnGroupPlainAny", vars := ["loop.example/pub-shellpatterns/spec.classNames", "loop.example/pub-shellpatterns/spec.ranges"], fn := fun _ => fun
  | [d1, d2, d3, g1, g2] => { results := [.lit (.bool false)], args := [d1, d2, d3], vars := [g1, g2] }
  | _ => none }
def FnGroupPlainAnyWrongFormAsk : Prop := fnGroupPlainAnyRow.holds Tryf.pinned (OpenSpec.ofChange fnGroupPlainAnyWrong)

/-- 'laws.FnGroupPlainText': WHATEVER THE INPUT: true; the input reads as it did. -/
def fnGroupPlainTextSpec : ChangeSpec := { name := "fnGroupPlainText", vars := ["loop.example/pub-shellpatterns/spec.classNames", "loop.example/pub-shellpatterns/spec.ranges"], fn := fun _ => fun
  | [d1, d2, d3, g1, g2] => { results := [.lit (.bool true)], args := [d1, d2, d3], vars := [g1, g2] }
  | _ => none }
def fnGroupPlainTextRow : OpenClaim := { program := "ytjoefmnkbcoblaafmt", sum := "9f699b7b281de769a7d3b93adee16d66c0be2580f99033dbaf914755e177c412", func := "loop.example/pub-shellpatterns/laws.FnGroupPlainText", spec := "fnGroupPlainText", stops := ["fmt.Sprintf", "fmt.errorf"], inPlace := ["internal/abi.NoEscape", "fmt.Sprintf", "fmt.errorf", "internal/reflectlite.ValueOf", "(internal/reflectlite.Value).Type", "(internal/reflectlite.Value).IsNil", "internal/reflectlite.TypeOf", "(internal/reflectlite.Value).Elem", "(internal/reflectlite.Value).Set"], unfollowed := true, recurses := true, named := ["io.EOF", "unicode/utf8.first", "unicode/utf8.acceptRanges", "errors.errorType", "loop.example/pub-shellpatterns/spec.classNames", "loop.example/pub-shellpatterns/spec.ranges"], apart := false, laid := [("unicode/utf8.acceptRanges", laid_unicode_utf8_acceptRanges), ("errors.errorType", laid_errors_errorType), ("io.EOF", laid_io_EOF), ("loop.example/pub-shellpatterns/spec.classNames", laid_loop_example_pub_shellpatterns_spec_classNames), ("loop.example/pub-shellpatterns/spec.ranges", laid_loop_example_pub_shellpatterns_spec_ranges), ("unicode/utf8.first", laid_unicode_utf8_first)] }
/-- NO THEOREM (fmt's text is open here; it may be false): for the released tool's asking of the row's closed facts alone. THE STATEMENT IS 'FnGroupPlainTextToldSaid' (YtjoefmnkbcoblaaFmtCards.lean). -/
def FnGroupPlainTextFormAsk : Prop := fnGroupPlainTextRow.holds Tryf.pinned (OpenSpec.ofChange fnGroupPlainTextSpec)

/-- ITS FALSE NEIGHBOUR: 'it returns false'. Refute it at one input. -/
def fnGroupPlainTextWrong : ChangeSpec := { name := "fnGroupPlainText", vars := ["loop.example/pub-shellpatterns/spec.classNames", "loop.example/pub-shellpatterns/spec.ranges"], fn := fun _ => fun
  | [d1, d2, d3, g1, g2] => { results := [.lit (.bool false)], args := [d1, d2, d3], vars := [g1, g2] }
  | _ => none }
def FnGroupPlainTextWrongFormAsk : Prop := fnGroupPlainTextRow.holds Tryf.pinned (OpenSpec.ofChange fnGroupPlainTextWrong)

/-- 'laws.FnRegexpAny': WHATEVER THE INPUT: true; the input reads as it did. -/
def fnRegexpAnySpec : ChangeSpec := { name := "fnRegexpAny", vars := ["loop.example/pub-shellpatterns/spec.classNames", "loop.example/pub-shellpatterns/spec.ranges"], fn := fun _ => fun
  | [d1, d2, g1, g2] => { results := [.lit (.bool true)], args := [d1, d2], vars := [g1, g2] }
  | _ => none }
def fnRegexpAnyRow : OpenClaim := { program := "ytjoefmnkbcoblaafmt", sum := "9f699b7b281de769a7d3b93adee16d66c0be2580f99033dbaf914755e177c412", func := "loop.example/pub-shellpatterns/laws.FnRegexpAny", spec := "fnRegexpAny", stops := ["fmt.Sprintf", "fmt.errorf"], inPlace := ["internal/abi.NoEscape", "fmt.Sprintf", "fmt.errorf", "internal/reflectlite.ValueOf", "(internal/reflectlite.Value).Type", "(internal/reflectlite.Value).IsNil", "internal/reflectlite.TypeOf", "(internal/reflectlite.Value).Elem", "(internal/reflectlite.Value).Set"], unfollowed := true, recurses := true, named := ["io.EOF", "unicode/utf8.first", "unicode/utf8.acceptRanges", "errors.errorType", "loop.example/pub-shellpatterns/spec.classNames", "loop.example/pub-shellpatterns/spec.ranges"], apart := false, laid := [("unicode/utf8.acceptRanges", laid_unicode_utf8_acceptRanges), ("errors.errorType", laid_errors_errorType), ("io.EOF", laid_io_EOF), ("loop.example/pub-shellpatterns/spec.classNames", laid_loop_example_pub_shellpatterns_spec_classNames), ("loop.example/pub-shellpatterns/spec.ranges", laid_loop_example_pub_shellpatterns_spec_ranges), ("unicode/utf8.first", laid_unicode_utf8_first)] }
/-- NO THEOREM (fmt's text is open here; it may be false): for the released tool's asking of the row's closed facts alone. THE STATEMENT IS 'FnRegexpAnyToldSaid' (YtjoefmnkbcoblaaFmtCards.lean). -/
def FnRegexpAnyFormAsk : Prop := fnRegexpAnyRow.holds Tryf.pinned (OpenSpec.ofChange fnRegexpAnySpec)

/-- ITS FALSE NEIGHBOUR: 'it returns false'. Refute it at one input. -/
def fnRegexpAnyWrong : ChangeSpec := { name := "fnRegexpAny", vars := ["loop.example/pub-shellpatterns/spec.classNames", "loop.example/pub-shellpatterns/spec.ranges"], fn := fun _ => fun
  | [d1, d2, g1, g2] => { results := [.lit (.bool false)], args := [d1, d2], vars := [g1, g2] }
  | _ => none }
def FnRegexpAnyWrongFormAsk : Prop := fnRegexpAnyRow.holds Tryf.pinned (OpenSpec.ofChange fnRegexpAnyWrong)

/-- 'laws.FnRegexpFault': WHATEVER THE INPUT: true; the input reads as it did. -/
def fnRegexpFaultSpec : ChangeSpec := { name := "fnRegexpFault", vars := ["loop.example/pub-shellpatterns/spec.classNames", "loop.example/pub-shellpatterns/spec.ranges"], fn := fun _ => fun
  | [d1, d2, g1, g2] => { results := [.lit (.bool true)], args := [d1, d2], vars := [g1, g2] }
  | _ => none }
def fnRegexpFaultRow : OpenClaim := { program := "ytjoefmnkbcoblaafmt", sum := "9f699b7b281de769a7d3b93adee16d66c0be2580f99033dbaf914755e177c412", func := "loop.example/pub-shellpatterns/laws.FnRegexpFault", spec := "fnRegexpFault", stops := ["fmt.Sprintf", "fmt.errorf"], inPlace := ["internal/abi.NoEscape", "fmt.Sprintf", "fmt.errorf", "internal/reflectlite.ValueOf", "(internal/reflectlite.Value).Type", "(internal/reflectlite.Value).IsNil", "internal/reflectlite.TypeOf", "(internal/reflectlite.Value).Elem", "(internal/reflectlite.Value).Set"], unfollowed := true, recurses := true, named := ["io.EOF", "unicode/utf8.first", "unicode/utf8.acceptRanges", "errors.errorType", "loop.example/pub-shellpatterns/spec.classNames", "loop.example/pub-shellpatterns/spec.ranges"], apart := false, laid := [("unicode/utf8.acceptRanges", laid_unicode_utf8_acceptRanges), ("errors.errorType", laid_errors_errorType), ("io.EOF", laid_io_EOF), ("loop.example/pub-shellpatterns/spec.classNames", laid_loop_example_pub_shellpatterns_spec_classNames), ("loop.example/pub-shellpatterns/spec.ranges", laid_loop_example_pub_shellpatterns_spec_ranges), ("unicode/utf8.first", laid_unicode_utf8_first)] }
/-- NO THEOREM (fmt's text is open here; it may be false): for the released tool's asking of the row's closed facts alone. THE STATEMENT IS 'FnRegexpFaultToldSaid' (YtjoefmnkbcoblaaFmtCards.lean). -/
def FnRegexpFaultFormAsk : Prop := fnRegexpFaultRow.holds Tryf.pinned (OpenSpec.ofChange fnRegexpFaultSpec)

/-- ITS FALSE NEIGHBOUR: 'it returns false'. Refute it at one input. -/
def fnRegexpFaultWrong : ChangeSpec := { name := "fnRegexpFault", vars := ["loop.example/pub-shellpatterns/spec.classNames", "loop.example/pub-shellpatterns/spec.ranges"], fn := fun _ => fun
  | [d1, d2, g1, g2] => { results := [.lit (.bool false)], args := [d1, d2], vars := [g1, g2] }
  | _ => none }
def FnRegexpFaultWrongFormAsk : Prop := fnRegexpFaultRow.holds Tryf.pinned (OpenSpec.ofChange fnRegexpFaultWrong)

/-- 'laws.FnRegexpStar': WHATEVER THE INPUT: true; the input reads as it did. -/
def fnRegexpStarSpec : ChangeSpec := { name := "fnRegexpStar", vars := ["loop.example/pub-shellpatterns/spec.classNames", "loop.example/pub-shellpatterns/spec.ranges"], fn := fun _ => fun
  | [d, g1, g2] => { results := [.lit (.bool true)], args := [d], vars := [g1, g2] }
  | _ => none }
def fnRegexpStarRow : OpenClaim := { program := "ytjoefmnkbcoblaafmt", sum := "9f699b7b281de769a7d3b93adee16d66c0be2580f99033dbaf914755e177c412", func := "loop.example/pub-shellpatterns/laws.FnRegexpStar", spec := "fnRegexpStar", stops := ["fmt.Sprintf", "fmt.errorf"], inPlace := ["internal/abi.NoEscape", "fmt.Sprintf", "fmt.errorf", "internal/reflectlite.ValueOf", "(internal/reflectlite.Value).Type", "(internal/reflectlite.Value).IsNil", "internal/reflectlite.TypeOf", "(internal/reflectlite.Value).Elem", "(internal/reflectlite.Value).Set"], unfollowed := true, recurses := true, named := ["io.EOF", "unicode/utf8.first", "unicode/utf8.acceptRanges", "errors.errorType", "loop.example/pub-shellpatterns/spec.classNames", "loop.example/pub-shellpatterns/spec.ranges"], apart := false, laid := [("unicode/utf8.acceptRanges", laid_unicode_utf8_acceptRanges), ("errors.errorType", laid_errors_errorType), ("io.EOF", laid_io_EOF), ("loop.example/pub-shellpatterns/spec.classNames", laid_loop_example_pub_shellpatterns_spec_classNames), ("loop.example/pub-shellpatterns/spec.ranges", laid_loop_example_pub_shellpatterns_spec_ranges), ("unicode/utf8.first", laid_unicode_utf8_first)] }
/-- NO THEOREM (fmt's text is open here; it may be false): for the released tool's asking of the row's closed facts alone. THE STATEMENT IS 'FnRegexpStarToldSaid' (YtjoefmnkbcoblaaFmtCards.lean). -/
def FnRegexpStarFormAsk : Prop := fnRegexpStarRow.holds Tryf.pinned (OpenSpec.ofChange fnRegexpStarSpec)

/-- ITS FALSE NEIGHBOUR: 'it returns false'. Refute it at one input. -/
def fnRegexpStarWrong : ChangeSpec := { name := "fnRegexpStar", vars := ["loop.example/pub-shellpatterns/spec.classNames", "loop.example/pub-shellpatterns/spec.ranges"], fn := fun _ => fun
  | [d, g1, g2] => { results := [.lit (.bool false)], args := [d], vars := [g1, g2] }
  | _ => none }
def FnRegexpStarWrongFormAsk : Prop := fnRegexpStarRow.holds Tryf.pinned (OpenSpec.ofChange fnRegexpStarWrong)

/-- 'laws.FnRegexpText': WHATEVER THE INPUT: true; the input reads as it did. -/
def fnRegexpTextSpec : ChangeSpec := { name := "fnRegexpText", vars := ["loop.example/pub-shellpatterns/spec.classNames", "loop.example/pub-shellpatterns/spec.ranges"], fn := fun _ => fun
  | [d1, d2, g1, g2] => { results := [.lit (.bool true)], args := [d1, d2], vars := [g1, g2] }
  | _ => none }
def fnRegexpTextRow : OpenClaim := { program := "ytjoefmnkbcoblaafmt", sum := "9f699b7b281de769a7d3b93adee16d66c0be2580f99033dbaf914755e177c412", func := "loop.example/pub-shellpatterns/laws.FnRegexpText", spec := "fnRegexpText", stops := ["fmt.Sprintf", "fmt.errorf"], inPlace := ["internal/abi.NoEscape", "fmt.Sprintf", "fmt.errorf", "internal/reflectlite.ValueOf", "(internal/reflectlite.Value).Type", "(internal/reflectlite.Value).IsNil", "internal/reflectlite.TypeOf", "(internal/reflectlite.Value).Elem", "(internal/reflectlite.Value).Set"], unfollowed := true, recurses := true, named := ["io.EOF", "unicode/utf8.first", "unicode/utf8.acceptRanges", "errors.errorType", "loop.example/pub-shellpatterns/spec.classNames", "loop.example/pub-shellpatterns/spec.ranges"], apart := false, laid := [("unicode/utf8.acceptRanges", laid_unicode_utf8_acceptRanges), ("errors.errorType", laid_errors_errorType), ("io.EOF", laid_io_EOF), ("loop.example/pub-shellpatterns/spec.classNames", laid_loop_example_pub_shellpatterns_spec_classNames), ("loop.example/pub-shellpatterns/spec.ranges", laid_loop_example_pub_shellpatterns_spec_ranges), ("unicode/utf8.first", laid_unicode_utf8_first)] }
/-- NO THEOREM (fmt's text is open here; it may be false): for the released tool's asking of the row's closed facts alone. THE STATEMENT IS 'FnRegexpTextToldSaid' (YtjoefmnkbcoblaaFmtCards.lean). -/
def FnRegexpTextFormAsk : Prop := fnRegexpTextRow.holds Tryf.pinned (OpenSpec.ofChange fnRegexpTextSpec)

/-- ITS FALSE NEIGHBOUR: 'it returns false'. Refute it at one input. -/
def fnRegexpTextWrong : ChangeSpec := { name := "fnRegexpText", vars := ["loop.example/pub-shellpatterns/spec.classNames", "loop.example/pub-shellpatterns/spec.ranges"], fn := fun _ => fun
  | [d1, d2, g1, g2] => { results := [.lit (.bool false)], args := [d1, d2], vars := [g1, g2] }
  | _ => none }
def FnRegexpTextWrongFormAsk : Prop := fnRegexpTextRow.holds Tryf.pinned (OpenSpec.ofChange fnRegexpTextWrong)

end Rows
end Go.Proofs.YtjoefmnkbcoblaaFmt
