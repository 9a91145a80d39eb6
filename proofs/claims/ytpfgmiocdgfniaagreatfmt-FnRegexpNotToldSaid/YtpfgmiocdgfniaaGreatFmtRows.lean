/-
  NARROWER THAN 'FOR EVERY INPUT', by the rows' own cells (each row's printed sentence says how): FnQuoteRegexp: laid · FnRange: laid · FnRegexpNot: laid.
  DERIVED. THE GIVEN ROWS OF THIS SEAT. 3 by the template 'for every input the law returns true; each argument reads behind the call as it read before'; 0 by the template 'total and deterministic' (their statements: YtpfgmiocdgfniaaGreatFmtTotals.lean).
  GIVEN WITH THE SEED: the statements are not yours to turn. If you find one false, say at which input.
  Laid BY PROGRAM, IN A SANDBOX (cutbox-rows.mjs): the forced cells as the released guide's own fill.sh prints them over the translation bea6686fb76359dd… (all of the seat's roots in one cut). By AI agents, Wed Nov 11 2026. No macro, syntax, notation, axiom, sorry.
-/
import Derived.Test.YtpfgmiocdgfniaaGreatFmtChecked
import GoSem.PinnedTables
import GoSem.Claim
import GoSem.ClaimJoined
import GoSem.ClaimMapViews
import Derived.JoinedTies
import Derived.KernelRfl
namespace Go.Proofs.YtpfgmiocdgfniaaGreatFmt
/- THE CELL 'sum', in the pinned program and in every row, IS THE sha256 OF THE DUMP (.gsa) THAT YtpfgmiocdgfniaaGreatFmtProg.lean LOADS. Nothing in Lean hashes anything: it is a label: what it is worth is what the hold of that sum in a sandbox is worth. -/
noncomputable def Tryz.pinned : Pinned := { name := "ytpfgmiocdgfniaagreatfmt", sum := "bea6686fb76359dd34cf27e605a1a3b31f97206727f484a434e53ed55a7835e8", checked := Tryz.checked }
namespace Rows
def none {H : Type} : Left H := { results := [], args := [] }

/- WHAT THE LISTED PACKAGE-LEVEL VARIABLES READ AS WHEN THE CALL BEGINS. Each datum BY PROGRAM (the guide's laid-datum.mjs) off the statement by which the dump's own 'gosem.cut.vars' lays the variable. In a bare row this is a premise. The card (YtpfgmiocdgfniaaGreatFmtCards.lean) ties it to the program's text. -/
def laid_unicode_utf8_acceptRanges {H : Type} : DataW H := .agg [.agg [.lit (.int .u8 128), .lit (.int .u8 191)], .agg [.lit (.int .u8 160), .lit (.int .u8 191)], .agg [.lit (.int .u8 128), .lit (.int .u8 159)], .agg [.lit (.int .u8 144), .lit (.int .u8 191)], .agg [.lit (.int .u8 128), .lit (.int .u8 143)], .agg [.lit (.int .u8 0), .lit (.int .u8 0)], .agg [.lit (.int .u8 0), .lit (.int .u8 0)], .agg [.lit (.int .u8 0), .lit (.int .u8 0)], .agg [.lit (.int .u8 0), .lit (.int .u8 0)], .agg [.lit (.int .u8 0), .lit (.int .u8 0)], .agg [.lit (.int .u8 0), .lit (.int .u8 0)], .agg [.lit (.int .u8 0), .lit (.int .u8 0)], .agg [.lit (.int .u8 0), .lit (.int .u8 0)], .agg [.lit (.int .u8 0), .lit (.int .u8 0)], .agg [.lit (.int .u8 0), .lit (.int .u8 0)], .agg [.lit (.int .u8 0), .lit (.int .u8 0)]]
def laid_errors_errorType {H : Type} : DataW H := .iface "internal/reflectlite.rtype" (.agg [.ptr (.lit (.string [101, 114, 114, 111, 114]))])
def laid_io_EOF {H : Type} : DataW H := .iface "*errors.errorString" (.ptr (.agg [.lit (.string [69, 79, 70])]))
def laid_loop_example_pub_shellpatterns_spec_classNames {H : Type} : DataW H := .slice [.lit (.string []), .lit (.string [97, 108, 110, 117, 109]), .lit (.string [97, 108, 112, 104, 97]), .lit (.string [98, 108, 97, 110, 107]), .lit (.string [99, 110, 116, 114, 108]), .lit (.string [100, 105, 103, 105, 116]), .lit (.string [103, 114, 97, 112, 104]), .lit (.string [108, 111, 119, 101, 114]), .lit (.string [112, 114, 105, 110, 116]), .lit (.string [112, 117, 110, 99, 116]), .lit (.string [115, 112, 97, 99, 101]), .lit (.string [117, 112, 112, 101, 114]), .lit (.string [120, 100, 105, 103, 105, 116])] []
def laid_loop_example_pub_shellpatterns_spec_ranges {H : Type} : DataW H := .slice [.lit (.string []), .lit (.string [48, 57, 65, 90, 97, 122]), .lit (.string [65, 90, 97, 122]), .lit (.string [9, 9, 32, 32]), .lit (.string [0, 31, 127, 127]), .lit (.string [48, 57]), .lit (.string [33, 126]), .lit (.string [97, 122]), .lit (.string [32, 126]), .lit (.string [33, 47, 58, 64, 91, 96, 123, 126]), .lit (.string [9, 13, 32, 32]), .lit (.string [65, 90]), .lit (.string [48, 57, 65, 70, 97, 102])] []
/-- One of Go's own tables, pinned by name: the form's constant. -/
def laid_unicode_utf8_first : DataW Unit := Go.Pinned.utf8First

/-- 'laws.FnQuoteRegexp': WHATEVER THE INPUT: true; the input reads as it did. -/
def fnQuoteRegexpSpec : ChangeSpec := { name := "fnQuoteRegexp", vars := ["loop.example/pub-shellpatterns/spec.classNames", "loop.example/pub-shellpatterns/spec.ranges"], fn := fun _ => fun
  | [d1, d2, g1, g2] => { results := [.lit (.bool true)], args := [d1, d2], vars := [g1, g2] }
  | _ => none }
def fnQuoteRegexpRow : OpenClaim := { program := "ytpfgmiocdgfniaagreatfmt", sum := "bea6686fb76359dd34cf27e605a1a3b31f97206727f484a434e53ed55a7835e8", func := "loop.example/pub-shellpatterns/laws.FnQuoteRegexp", spec := "fnQuoteRegexp", stops := ["fmt.Sprintf", "fmt.errorf"], inPlace := ["internal/abi.NoEscape", "fmt.Sprintf", "fmt.errorf", "internal/reflectlite.ValueOf", "(internal/reflectlite.Value).Type", "(internal/reflectlite.Value).IsNil", "internal/reflectlite.TypeOf", "(internal/reflectlite.Value).Elem", "(internal/reflectlite.Value).Set"], unfollowed := true, recurses := true, named := ["io.EOF", "unicode/utf8.first", "unicode/utf8.acceptRanges", "errors.errorType", "loop.example/pub-shellpatterns/spec.classNames", "loop.example/pub-shellpatterns/spec.ranges"], apart := false, laid := [("unicode/utf8.acceptRanges", laid_unicode_utf8_acceptRanges), ("errors.errorType", laid_errors_errorType), ("io.EOF", laid_io_EOF), ("loop.example/pub-shellpatterns/spec.classNames", laid_loop_example_pub_shellpatterns_spec_classNames), ("loop.example/pub-shellpatterns/spec.ranges", laid_loop_example_pub_shellpatterns_spec_ranges), ("unicode/utf8.first", laid_unicode_utf8_first)] }
/-- NO THEOREM (fmt's text is open here; it may be false): for the released tool's asking of the row's closed facts alone. THE STATEMENT IS 'FnQuoteRegexpToldSaid' (YtpfgmiocdgfniaaGreatFmtCards.lean). -/
def FnQuoteRegexpFormAsk : Prop := fnQuoteRegexpRow.holds Tryz.pinned (OpenSpec.ofChange fnQuoteRegexpSpec)

/-- ITS FALSE NEIGHBOUR: 'it returns false'. Refute it at one input. -/
def fnQuoteRegexpWrong : ChangeSpec := { name := "fnQuoteRegexp", vars := ["loop.example/pub-shellpatterns/spec.classNames", "loop.example/pub-shellpatterns/spec.ranges"], fn := fun _ => fun
  | [d1, d2, g1, g2] => { results := [.lit (.bool false)], args := [d1, d2], vars := [g1, g2] }
  | _ => none }
def FnQuoteRegexpWrongFormAsk : Prop := fnQuoteRegexpRow.holds Tryz.pinned (OpenSpec.ofChange fnQuoteRegexpWrong)

/-- 'laws.FnRange': WHATEVER THE INPUT: true; the input reads as it did. -/
def fnRangeSpec : ChangeSpec := { name := "fnRange", vars := ["loop.example/pub-shellpatterns/spec.classNames", "loop.example/pub-shellpatterns/spec.ranges"], fn := fun _ => fun
  | [d1, d2, d3, g1, g2] => { results := [.lit (.bool true)], args := [d1, d2, d3], vars := [g1, g2] }
  | _ => none }
def fnRangeRow : OpenClaim := { program := "ytpfgmiocdgfniaagreatfmt", sum := "bea6686fb76359dd34cf27e605a1a3b31f97206727f484a434e53ed55a7835e8", func := "loop.example/pub-shellpatterns/laws.FnRange", spec := "fnRange", stops := ["fmt.Sprintf", "fmt.errorf"], inPlace := ["internal/abi.NoEscape", "fmt.Sprintf", "fmt.errorf", "internal/reflectlite.ValueOf", "(internal/reflectlite.Value).Type", "(internal/reflectlite.Value).IsNil", "internal/reflectlite.TypeOf", "(internal/reflectlite.Value).Elem", "(internal/reflectlite.Value).Set"], unfollowed := true, recurses := true, named := ["loop.example/pub-shellpatterns/spec.classNames", "io.EOF", "unicode/utf8.first", "unicode/utf8.acceptRanges", "errors.errorType", "loop.example/pub-shellpatterns/spec.ranges"], apart := false, laid := [("unicode/utf8.acceptRanges", laid_unicode_utf8_acceptRanges), ("errors.errorType", laid_errors_errorType), ("io.EOF", laid_io_EOF), ("loop.example/pub-shellpatterns/spec.classNames", laid_loop_example_pub_shellpatterns_spec_classNames), ("loop.example/pub-shellpatterns/spec.ranges", laid_loop_example_pub_shellpatterns_spec_ranges), ("unicode/utf8.first", laid_unicode_utf8_first)] }
/-- NO THEOREM (fmt's text is open here; it may be false): for the released tool's asking of the row's closed facts alone. THE STATEMENT IS 'FnRangeToldSaid' (YtpfgmiocdgfniaaGreatFmtCards.lean). -/
def FnRangeFormAsk : Prop := fnRangeRow.holds Tryz.pinned (OpenSpec.ofChange fnRangeSpec)

/-- ITS FALSE NEIGHBOUR: 'it returns false'. Refute it at one input. -/
def fnRangeWrong : ChangeSpec := { name := "fnRange", vars := ["loop.example/pub-shellpatterns/spec.classNames", "loop.example/pub-shellpatterns/spec.ranges"], fn := fun _ => fun
  | [d1, d2, d3, g1, g2] => { results := [.lit (.bool false)], args := [d1, d2, d3], vars := [g1, g2] }
  | _ => none }
def FnRangeWrongFormAsk : Prop := fnRangeRow.holds Tryz.pinned (OpenSpec.ofChange fnRangeWrong)

/-- 'laws.FnRegexpNot': WHATEVER THE INPUT: true; the input reads as it did. -/
def fnRegexpNotSpec : ChangeSpec := { name := "fnRegexpNot", vars := ["loop.example/pub-shellpatterns/spec.classNames", "loop.example/pub-shellpatterns/spec.ranges"], fn := fun _ => fun
  | [d1, d2, g1, g2] => { results := [.lit (.bool true)], args := [d1, d2], vars := [g1, g2] }
  | _ => none }
def fnRegexpNotRow : OpenClaim := { program := "ytpfgmiocdgfniaagreatfmt", sum := "bea6686fb76359dd34cf27e605a1a3b31f97206727f484a434e53ed55a7835e8", func := "loop.example/pub-shellpatterns/laws.FnRegexpNot", spec := "fnRegexpNot", stops := ["fmt.Sprintf", "fmt.errorf"], inPlace := ["internal/abi.NoEscape", "fmt.Sprintf", "fmt.errorf", "internal/reflectlite.ValueOf", "(internal/reflectlite.Value).Type", "(internal/reflectlite.Value).IsNil", "internal/reflectlite.TypeOf", "(internal/reflectlite.Value).Elem", "(internal/reflectlite.Value).Set"], unfollowed := true, recurses := true, named := ["loop.example/pub-shellpatterns/spec.classNames", "io.EOF", "unicode/utf8.first", "unicode/utf8.acceptRanges", "errors.errorType", "loop.example/pub-shellpatterns/spec.ranges"], apart := false, laid := [("unicode/utf8.acceptRanges", laid_unicode_utf8_acceptRanges), ("errors.errorType", laid_errors_errorType), ("io.EOF", laid_io_EOF), ("loop.example/pub-shellpatterns/spec.classNames", laid_loop_example_pub_shellpatterns_spec_classNames), ("loop.example/pub-shellpatterns/spec.ranges", laid_loop_example_pub_shellpatterns_spec_ranges), ("unicode/utf8.first", laid_unicode_utf8_first)] }
/-- NO THEOREM (fmt's text is open here; it may be false): for the released tool's asking of the row's closed facts alone. THE STATEMENT IS 'FnRegexpNotToldSaid' (YtpfgmiocdgfniaaGreatFmtCards.lean). -/
def FnRegexpNotFormAsk : Prop := fnRegexpNotRow.holds Tryz.pinned (OpenSpec.ofChange fnRegexpNotSpec)

/-- ITS FALSE NEIGHBOUR: 'it returns false'. Refute it at one input. -/
def fnRegexpNotWrong : ChangeSpec := { name := "fnRegexpNot", vars := ["loop.example/pub-shellpatterns/spec.classNames", "loop.example/pub-shellpatterns/spec.ranges"], fn := fun _ => fun
  | [d1, d2, g1, g2] => { results := [.lit (.bool false)], args := [d1, d2], vars := [g1, g2] }
  | _ => none }
def FnRegexpNotWrongFormAsk : Prop := fnRegexpNotRow.holds Tryz.pinned (OpenSpec.ofChange fnRegexpNotWrong)

end Rows
end Go.Proofs.YtpfgmiocdgfniaaGreatFmt
