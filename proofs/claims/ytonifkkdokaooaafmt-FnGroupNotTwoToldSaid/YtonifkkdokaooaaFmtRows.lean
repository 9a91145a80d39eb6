/-
  NARROWER THAN 'FOR EVERY INPUT', by the rows' own cells (each row's printed sentence says how): FnClassAlnum: laid · FnClassAlpha: laid · FnClassBlank: laid · FnClassCntrl: laid · FnClassDigit: laid · FnClassGraph: laid · FnClassLower: laid · FnClassPrint: laid · FnClassPunct: laid · FnClassSpace: laid · FnClassUpper: laid · FnClassXdigit: laid · FnGroupNotTwo: laid.
  DERIVED. THE GIVEN ROWS OF THIS SEAT. 13 by the template 'for every input the law returns true; each argument reads behind the call as it read before'; 0 by the template 'total and deterministic' (their statements: YtonifkkdokaooaaFmtTotals.lean).
  GIVEN WITH THE SEED: the statements are not yours to turn. If you find one false, say at which input.
  Laid BY PROGRAM, IN A SANDBOX (cutbox-rows.mjs): the forced cells as the released guide's own fill.sh prints them over the translation c5824010a2ec6d2b… (all of the seat's roots in one cut). By AI agents, Wed Nov 11 2026. No macro, syntax, notation, axiom, sorry.
-/
import Derived.Test.YtonifkkdokaooaaFmtChecked
import GoSem.PinnedTables
import GoSem.Claim
import GoSem.ClaimJoined
import GoSem.ClaimMapViews
import Derived.JoinedTies
import Derived.KernelRfl
namespace Go.Proofs.YtonifkkdokaooaaFmt
/- THE CELL 'sum', in the pinned program and in every row, IS THE sha256 OF THE DUMP (.gsa) THAT YtonifkkdokaooaaFmtProg.lean LOADS. Nothing in Lean hashes anything: it is a label: what it is worth is what the hold of that sum in a sandbox is worth. -/
noncomputable def Tryf.pinned : Pinned := { name := "ytonifkkdokaooaafmt", sum := "c5824010a2ec6d2b40af4469dfd8697e4aa271ba570727330c328176b7c77275", checked := Tryf.checked }
namespace Rows
def none {H : Type} : Left H := { results := [], args := [] }

/- WHAT THE LISTED PACKAGE-LEVEL VARIABLES READ AS WHEN THE CALL BEGINS. Each datum BY PROGRAM (the guide's laid-datum.mjs) off the statement by which the dump's own 'gosem.cut.vars' lays the variable. In a bare row this is a premise. The card (YtonifkkdokaooaaFmtCards.lean) ties it to the program's text. -/
def laid_unicode_utf8_acceptRanges {H : Type} : DataW H := .agg [.agg [.lit (.int .u8 128), .lit (.int .u8 191)], .agg [.lit (.int .u8 160), .lit (.int .u8 191)], .agg [.lit (.int .u8 128), .lit (.int .u8 159)], .agg [.lit (.int .u8 144), .lit (.int .u8 191)], .agg [.lit (.int .u8 128), .lit (.int .u8 143)], .agg [.lit (.int .u8 0), .lit (.int .u8 0)], .agg [.lit (.int .u8 0), .lit (.int .u8 0)], .agg [.lit (.int .u8 0), .lit (.int .u8 0)], .agg [.lit (.int .u8 0), .lit (.int .u8 0)], .agg [.lit (.int .u8 0), .lit (.int .u8 0)], .agg [.lit (.int .u8 0), .lit (.int .u8 0)], .agg [.lit (.int .u8 0), .lit (.int .u8 0)], .agg [.lit (.int .u8 0), .lit (.int .u8 0)], .agg [.lit (.int .u8 0), .lit (.int .u8 0)], .agg [.lit (.int .u8 0), .lit (.int .u8 0)], .agg [.lit (.int .u8 0), .lit (.int .u8 0)]]
def laid_errors_errorType {H : Type} : DataW H := .iface "internal/reflectlite.rtype" (.agg [.ptr (.lit (.string [101, 114, 114, 111, 114]))])
def laid_io_EOF {H : Type} : DataW H := .iface "*errors.errorString" (.ptr (.agg [.lit (.string [69, 79, 70])]))
def laid_loop_example_pub_shellpatterns_spec_classNames {H : Type} : DataW H := .slice [.lit (.string []), .lit (.string [97, 108, 110, 117, 109]), .lit (.string [97, 108, 112, 104, 97]), .lit (.string [98, 108, 97, 110, 107]), .lit (.string [99, 110, 116, 114, 108]), .lit (.string [100, 105, 103, 105, 116]), .lit (.string [103, 114, 97, 112, 104]), .lit (.string [108, 111, 119, 101, 114]), .lit (.string [112, 114, 105, 110, 116]), .lit (.string [112, 117, 110, 99, 116]), .lit (.string [115, 112, 97, 99, 101]), .lit (.string [117, 112, 112, 101, 114]), .lit (.string [120, 100, 105, 103, 105, 116])] []
def laid_loop_example_pub_shellpatterns_spec_ranges {H : Type} : DataW H := .slice [.lit (.string []), .lit (.string [48, 57, 65, 90, 97, 122]), .lit (.string [65, 90, 97, 122]), .lit (.string [9, 9, 32, 32]), .lit (.string [0, 31, 127, 127]), .lit (.string [48, 57]), .lit (.string [33, 126]), .lit (.string [97, 122]), .lit (.string [32, 126]), .lit (.string [33, 47, 58, 64, 91, 96, 123, 126]), .lit (.string [9, 13, 32, 32]), .lit (.string [65, 90]), .lit (.string [48, 57, 65, 70, 97, 102])] []
/-- One of Go's own tables, pinned by name: the form's constant. -/
def laid_unicode_utf8_first : DataW Unit := Go.Pinned.utf8First

/-- 'laws.FnClassAlnum': WHATEVER THE INPUT: true; the input reads as it did. -/
def fnClassAlnumSpec : ChangeSpec := { name := "fnClassAlnum", vars := ["loop.example/pub-shellpatterns/spec.classNames", "loop.example/pub-shellpatterns/spec.ranges"], fn := fun _ => fun
  | [d, g1, g2] => { results := [.lit (.bool true)], args := [d], vars := [g1, g2] }
  | _ => none }
def fnClassAlnumRow : OpenClaim := { program := "ytonifkkdokaooaafmt", sum := "c5824010a2ec6d2b40af4469dfd8697e4aa271ba570727330c328176b7c77275", func := "loop.example/pub-shellpatterns/laws.FnClassAlnum", spec := "fnClassAlnum", stops := ["fmt.Sprintf", "fmt.errorf"], inPlace := ["internal/abi.NoEscape", "fmt.Sprintf", "fmt.errorf", "internal/reflectlite.ValueOf", "(internal/reflectlite.Value).Type", "(internal/reflectlite.Value).IsNil", "internal/reflectlite.TypeOf", "(internal/reflectlite.Value).Elem", "(internal/reflectlite.Value).Set"], unfollowed := true, recurses := true, named := ["io.EOF", "unicode/utf8.first", "unicode/utf8.acceptRanges", "errors.errorType", "loop.example/pub-shellpatterns/spec.classNames", "loop.example/pub-shellpatterns/spec.ranges"], apart := false, laid := [("unicode/utf8.acceptRanges", laid_unicode_utf8_acceptRanges), ("errors.errorType", laid_errors_errorType), ("io.EOF", laid_io_EOF), ("loop.example/pub-shellpatterns/spec.classNames", laid_loop_example_pub_shellpatterns_spec_classNames), ("loop.example/pub-shellpatterns/spec.ranges", laid_loop_example_pub_shellpatterns_spec_ranges), ("unicode/utf8.first", laid_unicode_utf8_first)] }
/-- NO THEOREM (fmt's text is open here; it may be false): for the released tool's asking of the row's closed facts alone. THE STATEMENT IS 'FnClassAlnumToldSaid' (YtonifkkdokaooaaFmtCards.lean). -/
def FnClassAlnumFormAsk : Prop := fnClassAlnumRow.holds Tryf.pinned (OpenSpec.ofChange fnClassAlnumSpec)

/-- ITS FALSE NEIGHBOUR: 'it returns false'. Refute it at one input. -/
def fnClassAlnumWrong : ChangeSpec := { name := "fnClassAlnum", vars := ["loop.example/pub-shellpatterns/spec.classNames", "loop.example/pub-shellpatterns/spec.ranges"], fn := fun _ => fun
  | [d, g1, g2] => { results := [.lit (.bool false)], args := [d], vars := [g1, g2] }
  | _ => none }
def FnClassAlnumWrongFormAsk : Prop := fnClassAlnumRow.holds Tryf.pinned (OpenSpec.ofChange fnClassAlnumWrong)

/-- 'laws.FnClassAlpha': WHATEVER THE INPUT: true; the input reads as it did. -/
def fnClassAlphaSpec : ChangeSpec := { name := "fnClassAlpha", vars := ["loop.example/pub-shellpatterns/spec.classNames", "loop.example/pub-shellpatterns/spec.ranges"], fn := fun _ => fun
  | [d, g1, g2] => { results := [.lit (.bool true)], args := [d], vars := [g1, g2] }
  | _ => none }
def fnClassAlphaRow : OpenClaim := { program := "ytonifkkdokaooaafmt", sum := "c5824010a2ec6d2b40af4469dfd8697e4aa271ba570727330c328176b7c77275", func := "loop.example/pub-shellpatterns/laws.FnClassAlpha", spec := "fnClassAlpha", stops := ["fmt.Sprintf", "fmt.errorf"], inPlace := ["internal/abi.NoEscape", "fmt.Sprintf", "fmt.errorf", "internal/reflectlite.ValueOf", "(internal/reflectlite.Value).Type", "(internal/reflectlite.Value).IsNil", "internal/reflectlite.TypeOf", "(internal/reflectlite.Value).Elem", "(internal/reflectlite.Value).Set"], unfollowed := true, recurses := true, named := ["io.EOF", "unicode/utf8.first", "unicode/utf8.acceptRanges", "errors.errorType", "loop.example/pub-shellpatterns/spec.classNames", "loop.example/pub-shellpatterns/spec.ranges"], apart := false, laid := [("unicode/utf8.acceptRanges", laid_unicode_utf8_acceptRanges), ("errors.errorType", laid_errors_errorType), ("io.EOF", laid_io_EOF), ("loop.example/pub-shellpatterns/spec.classNames", laid_loop_example_pub_shellpatterns_spec_classNames), ("loop.example/pub-shellpatterns/spec.ranges", laid_loop_example_pub_shellpatterns_spec_ranges), ("unicode/utf8.first", laid_unicode_utf8_first)] }
/-- NO THEOREM (fmt's text is open here; it may be false): for the released tool's asking of the row's closed facts alone. THE STATEMENT IS 'FnClassAlphaToldSaid' (YtonifkkdokaooaaFmtCards.lean). -/
def FnClassAlphaFormAsk : Prop := fnClassAlphaRow.holds Tryf.pinned (OpenSpec.ofChange fnClassAlphaSpec)

/-- ITS FALSE NEIGHBOUR: 'it returns false'. Refute it at one input. -/
def fnClassAlphaWrong : ChangeSpec := { name := "fnClassAlpha", vars := ["loop.example/pub-shellpatterns/spec.classNames", "loop.example/pub-shellpatterns/spec.ranges"], fn := fun _ => fun
  | [d, g1, g2] => { results := [.lit (.bool false)], args := [d], vars := [g1, g2] }
  | _ => none }
def FnClassAlphaWrongFormAsk : Prop := fnClassAlphaRow.holds Tryf.pinned (OpenSpec.ofChange fnClassAlphaWrong)

/-- 'laws.FnClassBlank': WHATEVER THE INPUT: true; the input reads as it did. -/
def fnClassBlankSpec : ChangeSpec := { name := "fnClassBlank", vars := ["loop.example/pub-shellpatterns/spec.classNames", "loop.example/pub-shellpatterns/spec.ranges"], fn := fun _ => fun
  | [d, g1, g2] => { results := [.lit (.bool true)], args := [d], vars := [g1, g2] }
  | _ => none }
def fnClassBlankRow : OpenClaim := { program := "ytonifkkdokaooaafmt", sum := "c5824010a2ec6d2b40af4469dfd8697e4aa271ba570727330c328176b7c77275", func := "loop.example/pub-shellpatterns/laws.FnClassBlank", spec := "fnClassBlank", stops := ["fmt.Sprintf", "fmt.errorf"], inPlace := ["internal/abi.NoEscape", "fmt.Sprintf", "fmt.errorf", "internal/reflectlite.ValueOf", "(internal/reflectlite.Value).Type", "(internal/reflectlite.Value).IsNil", "internal/reflectlite.TypeOf", "(internal/reflectlite.Value).Elem", "(internal/reflectlite.Value).Set"], unfollowed := true, recurses := true, named := ["io.EOF", "unicode/utf8.first", "unicode/utf8.acceptRanges", "errors.errorType", "loop.example/pub-shellpatterns/spec.classNames", "loop.example/pub-shellpatterns/spec.ranges"], apart := false, laid := [("unicode/utf8.acceptRanges", laid_unicode_utf8_acceptRanges), ("errors.errorType", laid_errors_errorType), ("io.EOF", laid_io_EOF), ("loop.example/pub-shellpatterns/spec.classNames", laid_loop_example_pub_shellpatterns_spec_classNames), ("loop.example/pub-shellpatterns/spec.ranges", laid_loop_example_pub_shellpatterns_spec_ranges), ("unicode/utf8.first", laid_unicode_utf8_first)] }
/-- NO THEOREM (fmt's text is open here; it may be false): for the released tool's asking of the row's closed facts alone. THE STATEMENT IS 'FnClassBlankToldSaid' (YtonifkkdokaooaaFmtCards.lean). -/
def FnClassBlankFormAsk : Prop := fnClassBlankRow.holds Tryf.pinned (OpenSpec.ofChange fnClassBlankSpec)

/-- ITS FALSE NEIGHBOUR: 'it returns false'. Refute it at one input. -/
def fnClassBlankWrong : ChangeSpec := { name := "fnClassBlank", vars := ["loop.example/pub-shellpatterns/spec.classNames", "loop.example/pub-shellpatterns/spec.ranges"], fn := fun _ => fun
  | [d, g1, g2] => { results := [.lit (.bool false)], args := [d], vars := [g1, g2] }
  | _ => none }
def FnClassBlankWrongFormAsk : Prop := fnClassBlankRow.holds Tryf.pinned (OpenSpec.ofChange fnClassBlankWrong)

/-- 'laws.FnClassCntrl': WHATEVER THE INPUT: true; the input reads as it did. -/
def fnClassCntrlSpec : ChangeSpec := { name := "fnClassCntrl", vars := ["loop.example/pub-shellpatterns/spec.classNames", "loop.example/pub-shellpatterns/spec.ranges"], fn := fun _ => fun
  | [d, g1, g2] => { results := [.lit (.bool true)], args := [d], vars := [g1, g2] }
  | _ => none }
def fnClassCntrlRow : OpenClaim := { program := "ytonifkkdokaooaafmt", sum := "c5824010a2ec6d2b40af4469dfd8697e4aa271ba570727330c328176b7c77275", func := "loop.example/pub-shellpatterns/laws.FnClassCntrl", spec := "fnClassCntrl", stops := ["fmt.Sprintf", "fmt.errorf"], inPlace := ["internal/abi.NoEscape", "fmt.Sprintf", "fmt.errorf", "internal/reflectlite.ValueOf", "(internal/reflectlite.Value).Type", "(internal/reflectlite.Value).IsNil", "internal/reflectlite.TypeOf", "(internal/reflectlite.Value).Elem", "(internal/reflectlite.Value).Set"], unfollowed := true, recurses := true, named := ["io.EOF", "unicode/utf8.first", "unicode/utf8.acceptRanges", "errors.errorType", "loop.example/pub-shellpatterns/spec.classNames", "loop.example/pub-shellpatterns/spec.ranges"], apart := false, laid := [("unicode/utf8.acceptRanges", laid_unicode_utf8_acceptRanges), ("errors.errorType", laid_errors_errorType), ("io.EOF", laid_io_EOF), ("loop.example/pub-shellpatterns/spec.classNames", laid_loop_example_pub_shellpatterns_spec_classNames), ("loop.example/pub-shellpatterns/spec.ranges", laid_loop_example_pub_shellpatterns_spec_ranges), ("unicode/utf8.first", laid_unicode_utf8_first)] }
/-- NO THEOREM (fmt's text is open here; it may be false): for the released tool's asking of the row's closed facts alone. THE STATEMENT IS 'FnClassCntrlToldSaid' (YtonifkkdokaooaaFmtCards.lean). -/
def FnClassCntrlFormAsk : Prop := fnClassCntrlRow.holds Tryf.pinned (OpenSpec.ofChange fnClassCntrlSpec)

/-- ITS FALSE NEIGHBOUR: 'it returns false'. Refute it at one input. -/
def fnClassCntrlWrong : ChangeSpec := { name := "fnClassCntrl", vars := ["loop.example/pub-shellpatterns/spec.classNames", "loop.example/pub-shellpatterns/spec.ranges"], fn := fun _ => fun
  | [d, g1, g2] => { results := [.lit (.bool false)], args := [d], vars := [g1, g2] }
  | _ => none }
def FnClassCntrlWrongFormAsk : Prop := fnClassCntrlRow.holds Tryf.pinned (OpenSpec.ofChange fnClassCntrlWrong)

/-- 'laws.FnClassDigit': WHATEVER THE INPUT: true; the input reads as it did. -/
def fnClassDigitSpec : ChangeSpec := { name := "fnClassDigit", vars := ["loop.example/pub-shellpatterns/spec.classNames", "loop.example/pub-shellpatterns/spec.ranges"], fn := fun _ => fun
  | [d, g1, g2] => { results := [.lit (.bool true)], args := [d], vars := [g1, g2] }
  | _ => none }
def fnClassDigitRow : OpenClaim := { program := "ytonifkkdokaooaafmt", sum := "c5824010a2ec6d2b40af4469dfd8697e4aa271ba570727330c328176b7c77275", func := "loop.example/pub-shellpatterns/laws.FnClassDigit", spec := "fnClassDigit", stops := ["fmt.Sprintf", "fmt.errorf"], inPlace := ["internal/abi.NoEscape", "fmt.Sprintf", "fmt.errorf", "internal/reflectlite.ValueOf", "(internal/reflectlite.Value).Type", "(internal/reflectlite.Value).IsNil", "internal/reflectlite.TypeOf", "(internal/reflectlite.Value).Elem", "(internal/reflectlite.Value).Set"], unfollowed := true, recurses := true, named := ["io.EOF", "unicode/utf8.first", "unicode/utf8.acceptRanges", "errors.errorType", "loop.example/pub-shellpatterns/spec.classNames", "loop.example/pub-shellpatterns/spec.ranges"], apart := false, laid := [("unicode/utf8.acceptRanges", laid_unicode_utf8_acceptRanges), ("errors.errorType", laid_errors_errorType), ("io.EOF", laid_io_EOF), ("loop.example/pub-shellpatterns/spec.classNames", laid_loop_example_pub_shellpatterns_spec_classNames), ("loop.example/pub-shellpatterns/spec.ranges", laid_loop_example_pub_shellpatterns_spec_ranges), ("unicode/utf8.first", laid_unicode_utf8_first)] }
/-- NO THEOREM (fmt's text is open here; it may be false): for the released tool's asking of the row's closed facts alone. THE STATEMENT IS 'FnClassDigitToldSaid' (YtonifkkdokaooaaFmtCards.lean). -/
def FnClassDigitFormAsk : Prop := fnClassDigitRow.holds Tryf.pinned (OpenSpec.ofChange fnClassDigitSpec)

/-- ITS FALSE NEIGHBOUR: 'it returns false'. Refute it at one input. -/
def fnClassDigitWrong : ChangeSpec := { name := "fnClassDigit", vars := ["loop.example/pub-shellpatterns/spec.classNames", "loop.example/pub-shellpatterns/spec.ranges"], fn := fun _ => fun
  | [d, g1, g2] => { results := [.lit (.bool false)], args := [d], vars := [g1, g2] }
  | _ => none }
def FnClassDigitWrongFormAsk : Prop := fnClassDigitRow.holds Tryf.pinned (OpenSpec.ofChange fnClassDigitWrong)

/-- 'laws.FnClassGraph': WHATEVER THE INPUT: true; the input reads as it did. -/
def fnClassGraphSpec : ChangeSpec := { name := "fnClassGraph", vars := ["loop.example/pub-shellpatterns/spec.classNames", "loop.example/pub-shellpatterns/spec.ranges"], fn := fun _ => fun
  | [d, g1, g2] => { results := [.lit (.bool true)], args := [d], vars := [g1, g2] }
  | _ => none }
def fnClassGraphRow : OpenClaim := { program := "ytonifkkdokaooaafmt", sum := "c5824010a2ec6d2b40af4469dfd8697e4aa271ba570727330c328176b7c77275", func := "loop.example/pub-shellpatterns/laws.FnClassGraph", spec := "fnClassGraph", stops := ["fmt.Sprintf", "fmt.errorf"], inPlace := ["internal/abi.NoEscape", "fmt.Sprintf", "fmt.errorf", "internal/reflectlite.ValueOf", "(internal/reflectlite.Value).Type", "(internal/reflectlite.Value).IsNil", "internal/reflectlite.TypeOf", "(internal/reflectlite.Value).Elem", "(internal/reflectlite.Value).Set"], unfollowed := true, recurses := true, named := ["io.EOF", "unicode/utf8.first", "unicode/utf8.acceptRanges", "errors.errorType", "loop.example/pub-shellpatterns/spec.classNames", "loop.example/pub-shellpatterns/spec.ranges"], apart := false, laid := [("unicode/utf8.acceptRanges", laid_unicode_utf8_acceptRanges), ("errors.errorType", laid_errors_errorType), ("io.EOF", laid_io_EOF), ("loop.example/pub-shellpatterns/spec.classNames", laid_loop_example_pub_shellpatterns_spec_classNames), ("loop.example/pub-shellpatterns/spec.ranges", laid_loop_example_pub_shellpatterns_spec_ranges), ("unicode/utf8.first", laid_unicode_utf8_first)] }
/-- NO THEOREM (fmt's text is open here; it may be false): for the released tool's asking of the row's closed facts alone. THE STATEMENT IS 'FnClassGraphToldSaid' (YtonifkkdokaooaaFmtCards.lean). -/
def FnClassGraphFormAsk : Prop := fnClassGraphRow.holds Tryf.pinned (OpenSpec.ofChange fnClassGraphSpec)

/-- ITS FALSE NEIGHBOUR: 'it returns false'. Refute it at one input. -/
def fnClassGraphWrong : ChangeSpec := { name := "fnClassGraph", vars := ["loop.example/pub-shellpatterns/spec.classNames", "loop.example/pub-shellpatterns/spec.ranges"], fn := fun _ => fun
  | [d, g1, g2] => { results := [.lit (.bool false)], args := [d], vars := [g1, g2] }
  | _ => none }
def FnClassGraphWrongFormAsk : Prop := fnClassGraphRow.holds Tryf.pinned (OpenSpec.ofChange fnClassGraphWrong)

/-- 'laws.FnClassLower': WHATEVER THE INPUT: true; the input reads as it did. -/
def fnClassLowerSpec : ChangeSpec := { name := "fnClassLower", vars := ["loop.example/pub-shellpatterns/spec.classNames", "loop.example/pub-shellpatterns/spec.ranges"], fn := fun _ => fun
  | [d, g1, g2] => { results := [.lit (.bool true)], args := [d], vars := [g1, g2] }
  | _ => none }
def fnClassLowerRow : OpenClaim := { program := "ytonifkkdokaooaafmt", sum := "c5824010a2ec6d2b40af4469dfd8697e4aa271ba570727330c328176b7c77275", func := "loop.example/pub-shellpatterns/laws.FnClassLower", spec := "fnClassLower", stops := ["fmt.Sprintf", "fmt.errorf"], inPlace := ["internal/abi.NoEscape", "fmt.Sprintf", "fmt.errorf", "internal/reflectlite.ValueOf", "(internal/reflectlite.Value).Type", "(internal/reflectlite.Value).IsNil", "internal/reflectlite.TypeOf", "(internal/reflectlite.Value).Elem", "(internal/reflectlite.Value).Set"], unfollowed := true, recurses := true, named := ["io.EOF", "unicode/utf8.first", "unicode/utf8.acceptRanges", "errors.errorType", "loop.example/pub-shellpatterns/spec.classNames", "loop.example/pub-shellpatterns/spec.ranges"], apart := false, laid := [("unicode/utf8.acceptRanges", laid_unicode_utf8_acceptRanges), ("errors.errorType", laid_errors_errorType), ("io.EOF", laid_io_EOF), ("loop.example/pub-shellpatterns/spec.classNames", laid_loop_example_pub_shellpatterns_spec_classNames), ("loop.example/pub-shellpatterns/spec.ranges", laid_loop_example_pub_shellpatterns_spec_ranges), ("unicode/utf8.first", laid_unicode_utf8_first)] }
/-- NO THEOREM (fmt's text is open here; it may be false): for the released tool's asking of the row's closed facts alone. THE STATEMENT IS 'FnClassLowerToldSaid' (YtonifkkdokaooaaFmtCards.lean). -/
def FnClassLowerFormAsk : Prop := fnClassLowerRow.holds Tryf.pinned (OpenSpec.ofChange fnClassLowerSpec)

/-- ITS FALSE NEIGHBOUR: 'it returns false'. Refute it at one input. -/
def fnClassLowerWrong : ChangeSpec := { name := "fnClassLower", vars := ["loop.example/pub-shellpatterns/spec.classNames", "loop.example/pub-shellpatterns/spec.ranges"], fn := fun _ => fun
  | [d, g1, g2] => { results := [.lit (.bool false)], args := [d], vars := [g1, g2] }
  | _ => none }
def FnClassLowerWrongFormAsk : Prop := fnClassLowerRow.holds Tryf.pinned (OpenSpec.ofChange fnClassLowerWrong)

/-- 'laws.FnClassPrint': WHATEVER THE INPUT: true; the input reads as it did. -/
def fnClassPrintSpec : ChangeSpec := { name := "fnClassPrint", vars := ["loop.example/pub-shellpatterns/spec.classNames", "loop.example/pub-shellpatterns/spec.ranges"], fn := fun _ => fun
  | [d, g1, g2] => { results := [.lit (.bool true)], args := [d], vars := [g1, g2] }
  | _ => none }
def fnClassPrintRow : OpenClaim := { program := "ytonifkkdokaooaafmt", sum := "c5824010a2ec6d2b40af4469dfd8697e4aa271ba570727330c328176b7c77275", func := "loop.example/pub-shellpatterns/laws.FnClassPrint", spec := "fnClassPrint", stops := ["fmt.Sprintf", "fmt.errorf"], inPlace := ["internal/abi.NoEscape", "fmt.Sprintf", "fmt.errorf", "internal/reflectlite.ValueOf", "(internal/reflectlite.Value).Type", "(internal/reflectlite.Value).IsNil", "internal/reflectlite.TypeOf", "(internal/reflectlite.Value).Elem", "(internal/reflectlite.Value).Set"], unfollowed := true, recurses := true, named := ["io.EOF", "unicode/utf8.first", "unicode/utf8.acceptRanges", "errors.errorType", "loop.example/pub-shellpatterns/spec.classNames", "loop.example/pub-shellpatterns/spec.ranges"], apart := false, laid := [("unicode/utf8.acceptRanges", laid_unicode_utf8_acceptRanges), ("errors.errorType", laid_errors_errorType), ("io.EOF", laid_io_EOF), ("loop.example/pub-shellpatterns/spec.classNames", laid_loop_example_pub_shellpatterns_spec_classNames), ("loop.example/pub-shellpatterns/spec.ranges", laid_loop_example_pub_shellpatterns_spec_ranges), ("unicode/utf8.first", laid_unicode_utf8_first)] }
/-- NO THEOREM (fmt's text is open here; it may be false): for the released tool's asking of the row's closed facts alone. THE STATEMENT IS 'FnClassPrintToldSaid' (YtonifkkdokaooaaFmtCards.lean). -/
def FnClassPrintFormAsk : Prop := fnClassPrintRow.holds Tryf.pinned (OpenSpec.ofChange fnClassPrintSpec)

/-- ITS FALSE NEIGHBOUR: 'it returns false'. Refute it at one input. -/
def fnClassPrintWrong : ChangeSpec := { name := "fnClassPrint", vars := ["loop.example/pub-shellpatterns/spec.classNames", "loop.example/pub-shellpatterns/spec.ranges"], fn := fun _ => fun
  | [d, g1, g2] => { results := [.lit (.bool false)], args := [d], vars := [g1, g2] }
  | _ => none }
def FnClassPrintWrongFormAsk : Prop := fnClassPrintRow.holds Tryf.pinned (OpenSpec.ofChange fnClassPrintWrong)

/-- 'laws.FnClassPunct': WHATEVER THE INPUT: true; the input reads as it did. -/
def fnClassPunctSpec : ChangeSpec := { name := "fnClassPunct", vars := ["loop.example/pub-shellpatterns/spec.classNames", "loop.example/pub-shellpatterns/spec.ranges"], fn := fun _ => fun
  | [d, g1, g2] => { results := [.lit (.bool true)], args := [d], vars := [g1, g2] }
  | _ => none }
def fnClassPunctRow : OpenClaim := { program := "ytonifkkdokaooaafmt", sum := "c5824010a2ec6d2b40af4469dfd8697e4aa271ba570727330c328176b7c77275", func := "loop.example/pub-shellpatterns/laws.FnClassPunct", spec := "fnClassPunct", stops := ["fmt.Sprintf", "fmt.errorf"], inPlace := ["internal/abi.NoEscape", "fmt.Sprintf", "fmt.errorf", "internal/reflectlite.ValueOf", "(internal/reflectlite.Value).Type", "(internal/reflectlite.Value).IsNil", "internal/reflectlite.TypeOf", "(internal/reflectlite.Value).Elem", "(internal/reflectlite.Value).Set"], unfollowed := true, recurses := true, named := ["io.EOF", "unicode/utf8.first", "unicode/utf8.acceptRanges", "errors.errorType", "loop.example/pub-shellpatterns/spec.classNames", "loop.example/pub-shellpatterns/spec.ranges"], apart := false, laid := [("unicode/utf8.acceptRanges", laid_unicode_utf8_acceptRanges), ("errors.errorType", laid_errors_errorType), ("io.EOF", laid_io_EOF), ("loop.example/pub-shellpatterns/spec.classNames", laid_loop_example_pub_shellpatterns_spec_classNames), ("loop.example/pub-shellpatterns/spec.ranges", laid_loop_example_pub_shellpatterns_spec_ranges), ("unicode/utf8.first", laid_unicode_utf8_first)] }
/-- NO THEOREM (fmt's text is open here; it may be false): for the released tool's asking of the row's closed facts alone. THE STATEMENT IS 'FnClassPunctToldSaid' (YtonifkkdokaooaaFmtCards.lean). -/
def FnClassPunctFormAsk : Prop := fnClassPunctRow.holds Tryf.pinned (OpenSpec.ofChange fnClassPunctSpec)

/-- ITS FALSE NEIGHBOUR: 'it returns false'. Refute it at one input. -/
def fnClassPunctWrong : ChangeSpec := { name := "fnClassPunct", vars := ["loop.example/pub-shellpatterns/spec.classNames", "loop.example/pub-shellpatterns/spec.ranges"], fn := fun _ => fun
  | [d, g1, g2] => { results := [.lit (.bool false)], args := [d], vars := [g1, g2] }
  | _ => none }
def FnClassPunctWrongFormAsk : Prop := fnClassPunctRow.holds Tryf.pinned (OpenSpec.ofChange fnClassPunctWrong)

/-- 'laws.FnClassSpace': WHATEVER THE INPUT: true; the input reads as it did. -/
def fnClassSpaceSpec : ChangeSpec := { name := "fnClassSpace", vars := ["loop.example/pub-shellpatterns/spec.classNames", "loop.example/pub-shellpatterns/spec.ranges"], fn := fun _ => fun
  | [d, g1, g2] => { results := [.lit (.bool true)], args := [d], vars := [g1, g2] }
  | _ => none }
def fnClassSpaceRow : OpenClaim := { program := "ytonifkkdokaooaafmt", sum := "c5824010a2ec6d2b40af4469dfd8697e4aa271ba570727330c328176b7c77275", func := "loop.example/pub-shellpatterns/laws.FnClassSpace", spec := "fnClassSpace", stops := ["fmt.Sprintf", "fmt.errorf"], inPlace := ["internal/abi.NoEscape", "fmt.Sprintf", "fmt.errorf", "internal/reflectlite.ValueOf", "(internal/reflectlite.Value).Type", "(internal/reflectlite.Value).IsNil", "internal/reflectlite.TypeOf", "(internal/reflectlite.Value).Elem", "(internal/reflectlite.Value).Set"], unfollowed := true, recurses := true, named := ["io.EOF", "unicode/utf8.first", "unicode/utf8.acceptRanges", "errors.errorType", "loop.example/pub-shellpatterns/spec.classNames", "loop.example/pub-shellpatterns/spec.ranges"], apart := false, laid := [("unicode/utf8.acceptRanges", laid_unicode_utf8_acceptRanges), ("errors.errorType", laid_errors_errorType), ("io.EOF", laid_io_EOF), ("loop.example/pub-shellpatterns/spec.classNames", laid_loop_example_pub_shellpatterns_spec_classNames), ("loop.example/pub-shellpatterns/spec.ranges", laid_loop_example_pub_shellpatterns_spec_ranges), ("unicode/utf8.first", laid_unicode_utf8_first)] }
/-- NO THEOREM (fmt's text is open here; it may be false): for the released tool's asking of the row's closed facts alone. THE STATEMENT IS 'FnClassSpaceToldSaid' (YtonifkkdokaooaaFmtCards.lean). -/
def FnClassSpaceFormAsk : Prop := fnClassSpaceRow.holds Tryf.pinned (OpenSpec.ofChange fnClassSpaceSpec)

/-- ITS FALSE NEIGHBOUR: 'it returns false'. Refute it at one input. -/
def fnClassSpaceWrong : ChangeSpec := { name := "fnClassSpace", vars := ["loop.example/pub-shellpatterns/spec.classNames", "loop.example/pub-shellpatterns/spec.ranges"], fn := fun _ => fun
  | [d, g1, g2] => { results := [.lit (.bool false)], args := [d], vars := [g1, g2] }
  | _ => none }
def FnClassSpaceWrongFormAsk : Prop := fnClassSpaceRow.holds Tryf.pinned (OpenSpec.ofChange fnClassSpaceWrong)

/-- 'laws.FnClassUpper': WHATEVER THE INPUT: true; the input reads as it did. -/
def fnClassUpperSpec : ChangeSpec := { name := "fnClassUpper", vars := ["loop.example/pub-shellpatterns/spec.classNames", "loop.example/pub-shellpatterns/spec.ranges"], fn := fun _ => fun
  | [d, g1, g2] => { results := [.lit (.bool true)], args := [d], vars := [g1, g2] }
  | _ => none }
def fnClassUpperRow : OpenClaim := { program := "ytonifkkdokaooaafmt", sum := "c5824010a2ec6d2b40af4469dfd8697e4aa271ba570727330c328176b7c77275", func := "loop.example/pub-shellpatterns/laws.FnClassUpper", spec := "fnClassUpper", stops := ["fmt.Sprintf", "fmt.errorf"], inPlace := ["internal/abi.NoEscape", "fmt.Sprintf", "fmt.errorf", "internal/reflectlite.ValueOf", "(internal/reflectlite.Value).Type", "(internal/reflectlite.Value).IsNil", "internal/reflectlite.TypeOf", "(internal/reflectlite.Value).Elem", "(internal/reflectlite.Value).Set"], unfollowed := true, recurses := true, named := ["io.EOF", "unicode/utf8.first", "unicode/utf8.acceptRanges", "errors.errorType", "loop.example/pub-shellpatterns/spec.classNames", "loop.example/pub-shellpatterns/spec.ranges"], apart := false, laid := [("unicode/utf8.acceptRanges", laid_unicode_utf8_acceptRanges), ("errors.errorType", laid_errors_errorType), ("io.EOF", laid_io_EOF), ("loop.example/pub-shellpatterns/spec.classNames", laid_loop_example_pub_shellpatterns_spec_classNames), ("loop.example/pub-shellpatterns/spec.ranges", laid_loop_example_pub_shellpatterns_spec_ranges), ("unicode/utf8.first", laid_unicode_utf8_first)] }
/-- NO THEOREM (fmt's text is open here; it may be false): for the released tool's asking of the row's closed facts alone. THE STATEMENT IS 'FnClassUpperToldSaid' (YtonifkkdokaooaaFmtCards.lean). -/
def FnClassUpperFormAsk : Prop := fnClassUpperRow.holds Tryf.pinned (OpenSpec.ofChange fnClassUpperSpec)

/-- ITS FALSE NEIGHBOUR: 'it returns false'. Refute it at one input. -/
def fnClassUpperWrong : ChangeSpec := { name := "fnClassUpper", vars := ["loop.example/pub-shellpatterns/spec.classNames", "loop.example/pub-shellpatterns/spec.ranges"], fn := fun _ => fun
  | [d, g1, g2] => { results := [.lit (.bool false)], args := [d], vars := [g1, g2] }
  | _ => none }
def FnClassUpperWrongFormAsk : Prop := fnClassUpperRow.holds Tryf.pinned (OpenSpec.ofChange fnClassUpperWrong)

/-- 'laws.FnClassXdigit': WHATEVER THE INPUT: true; the input reads as it did. -/
def fnClassXdigitSpec : ChangeSpec := { name := "fnClassXdigit", vars := ["loop.example/pub-shellpatterns/spec.classNames", "loop.example/pub-shellpatterns/spec.ranges"], fn := fun _ => fun
  | [d, g1, g2] => { results := [.lit (.bool true)], args := [d], vars := [g1, g2] }
  | _ => none }
def fnClassXdigitRow : OpenClaim := { program := "ytonifkkdokaooaafmt", sum := "c5824010a2ec6d2b40af4469dfd8697e4aa271ba570727330c328176b7c77275", func := "loop.example/pub-shellpatterns/laws.FnClassXdigit", spec := "fnClassXdigit", stops := ["fmt.Sprintf", "fmt.errorf"], inPlace := ["internal/abi.NoEscape", "fmt.Sprintf", "fmt.errorf", "internal/reflectlite.ValueOf", "(internal/reflectlite.Value).Type", "(internal/reflectlite.Value).IsNil", "internal/reflectlite.TypeOf", "(internal/reflectlite.Value).Elem", "(internal/reflectlite.Value).Set"], unfollowed := true, recurses := true, named := ["io.EOF", "unicode/utf8.first", "unicode/utf8.acceptRanges", "errors.errorType", "loop.example/pub-shellpatterns/spec.classNames", "loop.example/pub-shellpatterns/spec.ranges"], apart := false, laid := [("unicode/utf8.acceptRanges", laid_unicode_utf8_acceptRanges), ("errors.errorType", laid_errors_errorType), ("io.EOF", laid_io_EOF), ("loop.example/pub-shellpatterns/spec.classNames", laid_loop_example_pub_shellpatterns_spec_classNames), ("loop.example/pub-shellpatterns/spec.ranges", laid_loop_example_pub_shellpatterns_spec_ranges), ("unicode/utf8.first", laid_unicode_utf8_first)] }
/-- NO THEOREM (fmt's text is open here; it may be false): for the released tool's asking of the row's closed facts alone. THE STATEMENT IS 'FnClassXdigitToldSaid' (YtonifkkdokaooaaFmtCards.lean). -/
def FnClassXdigitFormAsk : Prop := fnClassXdigitRow.holds Tryf.pinned (OpenSpec.ofChange fnClassXdigitSpec)

/-- ITS FALSE NEIGHBOUR: 'it returns false'. Refute it at one input. -/
def fnClassXdigitWrong : ChangeSpec := { name := "fnClassXdigit", vars := ["loop.example/pub-shellpatterns/spec.classNames", "loop.example/pub-shellpatterns/spec.ranges"], fn := fun _ => fun
  | [d, g1, g2] => { results := [.lit (.bool false)], args := [d], vars := [g1, g2] }
  | _ => none }
def FnClassXdigitWrongFormAsk : Prop := fnClassXdigitRow.holds Tryf.pinned (OpenSpec.ofChange fnClassXdigitWrong)

/-- 'laws.FnGroupNotTwo': WHATEVER THE INPUT: true; the input reads as it did. -/
def fnGroupNotTwoSpec : ChangeSpec := { name := "fnGroupNotTwo", fn := fun _ => fun
  | [d1, d2, d3] => { results := [.lit (.bool true)], args := [d1, d2, d3] }
  | _ => none }
def fnGroupNotTwoRow : OpenClaim := { program := "ytonifkkdokaooaafmt", sum := "c5824010a2ec6d2b40af4469dfd8697e4aa271ba570727330c328176b7c77275", func := "loop.example/pub-shellpatterns/laws.FnGroupNotTwo", spec := "fnGroupNotTwo", stops := ["fmt.Sprintf", "fmt.errorf"], inPlace := ["internal/abi.NoEscape", "fmt.Sprintf", "fmt.errorf", "internal/reflectlite.ValueOf", "(internal/reflectlite.Value).Type", "(internal/reflectlite.Value).IsNil", "internal/reflectlite.TypeOf", "(internal/reflectlite.Value).Elem", "(internal/reflectlite.Value).Set"], unfollowed := true, recurses := true, named := ["io.EOF", "unicode/utf8.first", "unicode/utf8.acceptRanges", "errors.errorType"], apart := false, laid := [("unicode/utf8.acceptRanges", laid_unicode_utf8_acceptRanges), ("errors.errorType", laid_errors_errorType), ("io.EOF", laid_io_EOF), ("unicode/utf8.first", laid_unicode_utf8_first)] }
/-- NO THEOREM (fmt's text is open here; it may be false): for the released tool's asking of the row's closed facts alone. THE STATEMENT IS 'FnGroupNotTwoToldSaid' (YtonifkkdokaooaaFmtCards.lean). -/
def FnGroupNotTwoFormAsk : Prop := fnGroupNotTwoRow.holds Tryf.pinned (OpenSpec.ofChange fnGroupNotTwoSpec)

/-- ITS FALSE NEIGHBOUR: 'it returns false'. Refute it at one input. -/
def fnGroupNotTwoWrong : ChangeSpec := { name := "fnGroupNotTwo", fn := fun _ => fun
  | [d1, d2, d3] => { results := [.lit (.bool false)], args := [d1, d2, d3] }
  | _ => none }
def FnGroupNotTwoWrongFormAsk : Prop := fnGroupNotTwoRow.holds Tryf.pinned (OpenSpec.ofChange fnGroupNotTwoWrong)

end Rows
end Go.Proofs.YtonifkkdokaooaaFmt
