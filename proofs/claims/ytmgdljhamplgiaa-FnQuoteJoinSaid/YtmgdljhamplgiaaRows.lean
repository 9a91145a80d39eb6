/-
  No cell of these rows narrows 'for every input' (looked for: loops, veiled, ifaces, maps, wideKeys, modest, calm, conditions, laid).
  DERIVED. THE GIVEN ROWS OF THIS SEAT. 9 by the template 'for every input the law returns true; each argument reads behind the call as it read before'; 0 by the template 'total and deterministic' (their statements: YtmgdljhamplgiaaTotals.lean).
  GIVEN WITH THE SEED: the statements are not yours to turn. If you find one false, say at which input.
  Laid BY PROGRAM, IN A SANDBOX (cutbox-rows.mjs): the forced cells as the released guide's own fill.sh prints them over the translation e24791c3294b49fa… (all of the seat's roots in one cut). By AI agents, Wed Nov 11 2026. No macro, syntax, notation, axiom, sorry.
-/
import Derived.Test.YtmgdljhamplgiaaChecked
import GoSem.Claim
import GoSem.ClaimJoined
import GoSem.ClaimMapViews
import Derived.JoinedTies
import Derived.KernelRfl
namespace Go.Proofs.Ytmgdljhamplgiaa
/- THE CELL 'sum', in the pinned program and in every row, IS THE sha256 OF THE DUMP (.gsa) THAT YtmgdljhamplgiaaProg.lean LOADS. Nothing in Lean hashes anything: it is a label: what it is worth is what the hold of that sum in a sandbox is worth. -/
noncomputable def Try.pinned : Pinned := { name := "ytmgdljhamplgiaa", sum := "e24791c3294b49fa618804c8db5488ac46325dfad0942c0af3db099555ea6862", checked := Try.checked }
namespace Rows
def none {H : Type} : Left H := { results := [], args := [] }

/-- 'laws.FnHasMetaAny': WHATEVER THE INPUT: true; the input reads as it did. -/
def fnHasMetaAnySpec : ChangeSpec := { name := "fnHasMetaAny", fn := fun _ => fun
  | [d1, d2] => { results := [.lit (.bool true)], args := [d1, d2] }
  | _ => none }
def fnHasMetaAnyRow : OpenClaim := { program := "ytmgdljhamplgiaa", sum := "e24791c3294b49fa618804c8db5488ac46325dfad0942c0af3db099555ea6862", func := "loop.example/pub-shellpatterns/laws.FnHasMetaAny", spec := "fnHasMetaAny", apart := false }
def FnHasMetaAnySaid : Prop := fnHasMetaAnyRow.holds Try.pinned (OpenSpec.ofChange fnHasMetaAnySpec)

/-- ITS FALSE NEIGHBOUR: 'it returns false'. Refute it at one input. -/
def fnHasMetaAnyWrong : ChangeSpec := { name := "fnHasMetaAny", fn := fun _ => fun
  | [d1, d2] => { results := [.lit (.bool false)], args := [d1, d2] }
  | _ => none }
def FnHasMetaAnyWrongFalsely : Prop := fnHasMetaAnyRow.holds Try.pinned (OpenSpec.ofChange fnHasMetaAnyWrong)

/-- 'laws.FnHasMetaQuoted': WHATEVER THE INPUT: true; the input reads as it did. -/
def fnHasMetaQuotedSpec : ChangeSpec := { name := "fnHasMetaQuoted", fn := fun _ => fun
  | [d1, d2] => { results := [.lit (.bool true)], args := [d1, d2] }
  | _ => none }
def fnHasMetaQuotedRow : OpenClaim := { program := "ytmgdljhamplgiaa", sum := "e24791c3294b49fa618804c8db5488ac46325dfad0942c0af3db099555ea6862", func := "loop.example/pub-shellpatterns/laws.FnHasMetaQuoted", spec := "fnHasMetaQuoted", apart := false }
def FnHasMetaQuotedSaid : Prop := fnHasMetaQuotedRow.holds Try.pinned (OpenSpec.ofChange fnHasMetaQuotedSpec)

/-- ITS FALSE NEIGHBOUR: 'it returns false'. Refute it at one input. -/
def fnHasMetaQuotedWrong : ChangeSpec := { name := "fnHasMetaQuoted", fn := fun _ => fun
  | [d1, d2] => { results := [.lit (.bool false)], args := [d1, d2] }
  | _ => none }
def FnHasMetaQuotedWrongFalsely : Prop := fnHasMetaQuotedRow.holds Try.pinned (OpenSpec.ofChange fnHasMetaQuotedWrong)

/-- 'laws.FnHasMetaStar': WHATEVER THE INPUT: true; the input reads as it did. -/
def fnHasMetaStarSpec : ChangeSpec := { name := "fnHasMetaStar", fn := fun _ => fun
  | [d1, d2] => { results := [.lit (.bool true)], args := [d1, d2] }
  | _ => none }
def fnHasMetaStarRow : OpenClaim := { program := "ytmgdljhamplgiaa", sum := "e24791c3294b49fa618804c8db5488ac46325dfad0942c0af3db099555ea6862", func := "loop.example/pub-shellpatterns/laws.FnHasMetaStar", spec := "fnHasMetaStar", apart := false }
def FnHasMetaStarSaid : Prop := fnHasMetaStarRow.holds Try.pinned (OpenSpec.ofChange fnHasMetaStarSpec)

/-- ITS FALSE NEIGHBOUR: 'it returns false'. Refute it at one input. -/
def fnHasMetaStarWrong : ChangeSpec := { name := "fnHasMetaStar", fn := fun _ => fun
  | [d1, d2] => { results := [.lit (.bool false)], args := [d1, d2] }
  | _ => none }
def FnHasMetaStarWrongFalsely : Prop := fnHasMetaStarRow.holds Try.pinned (OpenSpec.ofChange fnHasMetaStarWrong)

/-- 'laws.FnQuoteJoin': WHATEVER THE INPUT: true; the input reads as it did. -/
def fnQuoteJoinSpec : ChangeSpec := { name := "fnQuoteJoin", fn := fun _ => fun
  | [d1, d2] => { results := [.lit (.bool true)], args := [d1, d2] }
  | _ => none }
def fnQuoteJoinRow : OpenClaim := { program := "ytmgdljhamplgiaa", sum := "e24791c3294b49fa618804c8db5488ac46325dfad0942c0af3db099555ea6862", func := "loop.example/pub-shellpatterns/laws.FnQuoteJoin", spec := "fnQuoteJoin", inPlace := ["internal/abi.NoEscape"], apart := false }
def FnQuoteJoinSaid : Prop := fnQuoteJoinRow.holds Try.pinned (OpenSpec.ofChange fnQuoteJoinSpec)

/-- ITS FALSE NEIGHBOUR: 'it returns false'. Refute it at one input. -/
def fnQuoteJoinWrong : ChangeSpec := { name := "fnQuoteJoin", fn := fun _ => fun
  | [d1, d2] => { results := [.lit (.bool false)], args := [d1, d2] }
  | _ => none }
def FnQuoteJoinWrongFalsely : Prop := fnQuoteJoinRow.holds Try.pinned (OpenSpec.ofChange fnQuoteJoinWrong)

/-- 'laws.FnQuoteLength': WHATEVER THE INPUT: true; the input reads as it did. -/
def fnQuoteLengthSpec : ChangeSpec := { name := "fnQuoteLength", fn := fun _ => fun
  | [d] => { results := [.lit (.bool true)], args := [d] }
  | _ => none }
def fnQuoteLengthRow : OpenClaim := { program := "ytmgdljhamplgiaa", sum := "e24791c3294b49fa618804c8db5488ac46325dfad0942c0af3db099555ea6862", func := "loop.example/pub-shellpatterns/laws.FnQuoteLength", spec := "fnQuoteLength", inPlace := ["internal/abi.NoEscape"], apart := false }
def FnQuoteLengthSaid : Prop := fnQuoteLengthRow.holds Try.pinned (OpenSpec.ofChange fnQuoteLengthSpec)

/-- ITS FALSE NEIGHBOUR: 'it returns false'. Refute it at one input. -/
def fnQuoteLengthWrong : ChangeSpec := { name := "fnQuoteLength", fn := fun _ => fun
  | [d] => { results := [.lit (.bool false)], args := [d] }
  | _ => none }
def FnQuoteLengthWrongFalsely : Prop := fnQuoteLengthRow.holds Try.pinned (OpenSpec.ofChange fnQuoteLengthWrong)

/-- 'laws.FnQuotePlain': WHATEVER THE INPUT: true; the input reads as it did. -/
def fnQuotePlainSpec : ChangeSpec := { name := "fnQuotePlain", fn := fun _ => fun
  | [d] => { results := [.lit (.bool true)], args := [d] }
  | _ => none }
def fnQuotePlainRow : OpenClaim := { program := "ytmgdljhamplgiaa", sum := "e24791c3294b49fa618804c8db5488ac46325dfad0942c0af3db099555ea6862", func := "loop.example/pub-shellpatterns/laws.FnQuotePlain", spec := "fnQuotePlain", inPlace := ["internal/abi.NoEscape"], apart := false }
def FnQuotePlainSaid : Prop := fnQuotePlainRow.holds Try.pinned (OpenSpec.ofChange fnQuotePlainSpec)

/-- ITS FALSE NEIGHBOUR: 'it returns false'. Refute it at one input. -/
def fnQuotePlainWrong : ChangeSpec := { name := "fnQuotePlain", fn := fun _ => fun
  | [d] => { results := [.lit (.bool false)], args := [d] }
  | _ => none }
def FnQuotePlainWrongFalsely : Prop := fnQuotePlainRow.holds Try.pinned (OpenSpec.ofChange fnQuotePlainWrong)

/-- 'laws.FnQuoteRead': WHATEVER THE INPUT: true; the input reads as it did. -/
def fnQuoteReadSpec : ChangeSpec := { name := "fnQuoteRead", fn := fun _ => fun
  | [d] => { results := [.lit (.bool true)], args := [d] }
  | _ => none }
def fnQuoteReadRow : OpenClaim := { program := "ytmgdljhamplgiaa", sum := "e24791c3294b49fa618804c8db5488ac46325dfad0942c0af3db099555ea6862", func := "loop.example/pub-shellpatterns/laws.FnQuoteRead", spec := "fnQuoteRead", inPlace := ["internal/abi.NoEscape"], apart := false }
def FnQuoteReadSaid : Prop := fnQuoteReadRow.holds Try.pinned (OpenSpec.ofChange fnQuoteReadSpec)

/-- ITS FALSE NEIGHBOUR: 'it returns false'. Refute it at one input. -/
def fnQuoteReadWrong : ChangeSpec := { name := "fnQuoteRead", fn := fun _ => fun
  | [d] => { results := [.lit (.bool false)], args := [d] }
  | _ => none }
def FnQuoteReadWrongFalsely : Prop := fnQuoteReadRow.holds Try.pinned (OpenSpec.ofChange fnQuoteReadWrong)

/-- 'laws.FnQuoteTwice': WHATEVER THE INPUT: true; the input reads as it did. -/
def fnQuoteTwiceSpec : ChangeSpec := { name := "fnQuoteTwice", fn := fun _ => fun
  | [d] => { results := [.lit (.bool true)], args := [d] }
  | _ => none }
def fnQuoteTwiceRow : OpenClaim := { program := "ytmgdljhamplgiaa", sum := "e24791c3294b49fa618804c8db5488ac46325dfad0942c0af3db099555ea6862", func := "loop.example/pub-shellpatterns/laws.FnQuoteTwice", spec := "fnQuoteTwice", inPlace := ["internal/abi.NoEscape"], apart := false }
def FnQuoteTwiceSaid : Prop := fnQuoteTwiceRow.holds Try.pinned (OpenSpec.ofChange fnQuoteTwiceSpec)

/-- ITS FALSE NEIGHBOUR: 'it returns false'. Refute it at one input. -/
def fnQuoteTwiceWrong : ChangeSpec := { name := "fnQuoteTwice", fn := fun _ => fun
  | [d] => { results := [.lit (.bool false)], args := [d] }
  | _ => none }
def FnQuoteTwiceWrongFalsely : Prop := fnQuoteTwiceRow.holds Try.pinned (OpenSpec.ofChange fnQuoteTwiceWrong)

/-- 'laws.FnQuoteMeta': WHATEVER THE INPUT: true; the input reads as it did. -/
def fnQuoteMetaSpec : ChangeSpec := { name := "fnQuoteMeta", fn := fun _ => fun
  | [d] => { results := [.lit (.bool true)], args := [d] }
  | _ => none }
def fnQuoteMetaRow : OpenClaim := { program := "ytmgdljhamplgiaa", sum := "e24791c3294b49fa618804c8db5488ac46325dfad0942c0af3db099555ea6862", func := "loop.example/pub-shellpatterns/laws.FnQuoteMeta", spec := "fnQuoteMeta", inPlace := ["internal/abi.NoEscape"], apart := false }
def FnQuoteMetaSaid : Prop := fnQuoteMetaRow.holds Try.pinned (OpenSpec.ofChange fnQuoteMetaSpec)

/-- ITS FALSE NEIGHBOUR: 'it returns false'. Refute it at one input. -/
def fnQuoteMetaWrong : ChangeSpec := { name := "fnQuoteMeta", fn := fun _ => fun
  | [d] => { results := [.lit (.bool false)], args := [d] }
  | _ => none }
def FnQuoteMetaWrongFalsely : Prop := fnQuoteMetaRow.holds Try.pinned (OpenSpec.ofChange fnQuoteMetaWrong)

/- THE SECOND FORM. 'bulk': how many values and letters a reading holds, each counted each time it is reached (what is shared counts as often as it is met; a slice's spare places count too). A statement '..UptoSaid' is the law's where the arguments, and the package variables that the reading takes, are together of bulk at most 1048576: NARROWER than '..Said'. Prove '..Said' where nothing that the law and all that it calls make is longer than what came in: it says more and counts as full. Else prove '..UptoSaid'. A law counts once. -/
mutual
def uptoBulk {H : Type} : DataW H → Nat
  | .lit (.string bytes) => bytes.length + 1
  | .lit _ => 1
  | .nil => 1
  | .ptr d => uptoBulk d + 1
  | .slice elems spare => uptoBulkAll elems + uptoBulkAll spare + 1
  | .agg parts => uptoBulkAll parts + 1
  | .iface _ d => uptoBulk d + 1
  | .map entries => uptoBulkEntries entries + 1
  | .held _ => 1
def uptoBulkAll {H : Type} : List (DataW H) → Nat
  | [] => 0
  | d :: r => uptoBulk d + uptoBulkAll r
def uptoBulkEntries {H : Type} : List (Lit × DataW H) → Nat
  | [] => 0
  | x :: r => uptoBulkEntry x + uptoBulkEntries r
def uptoBulkEntry {H : Type} : Lit × DataW H → Nat
  | (.string bytes, d) => bytes.length + uptoBulk d + 1
  | (_, d) => uptoBulk d + 1
 end
def uptoSmall : (H : Type) → List (DataW H) → Bool := fun _ ds => decide (uptoBulkAll ds ≤ 1048576)
def OpenSpec.upto (s : _root_.Go.ChangeSpec) : _root_.Go.OpenSpec := { _root_.Go.OpenSpec.ofChange s with cond := some uptoSmall }

/-- 'laws.FnHasMetaAny', WHERE WHAT IT READS IS OF BULK AT MOST 1048576: true; the input reads as it did. -/
def fnHasMetaAnyUptoRow : OpenClaim := { program := "ytmgdljhamplgiaa", sum := "e24791c3294b49fa618804c8db5488ac46325dfad0942c0af3db099555ea6862", func := "loop.example/pub-shellpatterns/laws.FnHasMetaAny", spec := "fnHasMetaAny", apart := false, narrowed := true }
def FnHasMetaAnyUptoSaid : Prop := fnHasMetaAnyUptoRow.holds Try.pinned (OpenSpec.upto fnHasMetaAnySpec)

/-- 'laws.FnHasMetaQuoted', WHERE WHAT IT READS IS OF BULK AT MOST 1048576: true; the input reads as it did. -/
def fnHasMetaQuotedUptoRow : OpenClaim := { program := "ytmgdljhamplgiaa", sum := "e24791c3294b49fa618804c8db5488ac46325dfad0942c0af3db099555ea6862", func := "loop.example/pub-shellpatterns/laws.FnHasMetaQuoted", spec := "fnHasMetaQuoted", apart := false, narrowed := true }
def FnHasMetaQuotedUptoSaid : Prop := fnHasMetaQuotedUptoRow.holds Try.pinned (OpenSpec.upto fnHasMetaQuotedSpec)

/-- 'laws.FnHasMetaStar', WHERE WHAT IT READS IS OF BULK AT MOST 1048576: true; the input reads as it did. -/
def fnHasMetaStarUptoRow : OpenClaim := { program := "ytmgdljhamplgiaa", sum := "e24791c3294b49fa618804c8db5488ac46325dfad0942c0af3db099555ea6862", func := "loop.example/pub-shellpatterns/laws.FnHasMetaStar", spec := "fnHasMetaStar", apart := false, narrowed := true }
def FnHasMetaStarUptoSaid : Prop := fnHasMetaStarUptoRow.holds Try.pinned (OpenSpec.upto fnHasMetaStarSpec)

/-- 'laws.FnQuoteJoin', WHERE WHAT IT READS IS OF BULK AT MOST 1048576: true; the input reads as it did. -/
def fnQuoteJoinUptoRow : OpenClaim := { program := "ytmgdljhamplgiaa", sum := "e24791c3294b49fa618804c8db5488ac46325dfad0942c0af3db099555ea6862", func := "loop.example/pub-shellpatterns/laws.FnQuoteJoin", spec := "fnQuoteJoin", inPlace := ["internal/abi.NoEscape"], apart := false, narrowed := true }
def FnQuoteJoinUptoSaid : Prop := fnQuoteJoinUptoRow.holds Try.pinned (OpenSpec.upto fnQuoteJoinSpec)

/-- 'laws.FnQuoteLength', WHERE WHAT IT READS IS OF BULK AT MOST 1048576: true; the input reads as it did. -/
def fnQuoteLengthUptoRow : OpenClaim := { program := "ytmgdljhamplgiaa", sum := "e24791c3294b49fa618804c8db5488ac46325dfad0942c0af3db099555ea6862", func := "loop.example/pub-shellpatterns/laws.FnQuoteLength", spec := "fnQuoteLength", inPlace := ["internal/abi.NoEscape"], apart := false, narrowed := true }
def FnQuoteLengthUptoSaid : Prop := fnQuoteLengthUptoRow.holds Try.pinned (OpenSpec.upto fnQuoteLengthSpec)

/-- 'laws.FnQuotePlain', WHERE WHAT IT READS IS OF BULK AT MOST 1048576: true; the input reads as it did. -/
def fnQuotePlainUptoRow : OpenClaim := { program := "ytmgdljhamplgiaa", sum := "e24791c3294b49fa618804c8db5488ac46325dfad0942c0af3db099555ea6862", func := "loop.example/pub-shellpatterns/laws.FnQuotePlain", spec := "fnQuotePlain", inPlace := ["internal/abi.NoEscape"], apart := false, narrowed := true }
def FnQuotePlainUptoSaid : Prop := fnQuotePlainUptoRow.holds Try.pinned (OpenSpec.upto fnQuotePlainSpec)

/-- 'laws.FnQuoteRead', WHERE WHAT IT READS IS OF BULK AT MOST 1048576: true; the input reads as it did. -/
def fnQuoteReadUptoRow : OpenClaim := { program := "ytmgdljhamplgiaa", sum := "e24791c3294b49fa618804c8db5488ac46325dfad0942c0af3db099555ea6862", func := "loop.example/pub-shellpatterns/laws.FnQuoteRead", spec := "fnQuoteRead", inPlace := ["internal/abi.NoEscape"], apart := false, narrowed := true }
def FnQuoteReadUptoSaid : Prop := fnQuoteReadUptoRow.holds Try.pinned (OpenSpec.upto fnQuoteReadSpec)

/-- 'laws.FnQuoteTwice', WHERE WHAT IT READS IS OF BULK AT MOST 1048576: true; the input reads as it did. -/
def fnQuoteTwiceUptoRow : OpenClaim := { program := "ytmgdljhamplgiaa", sum := "e24791c3294b49fa618804c8db5488ac46325dfad0942c0af3db099555ea6862", func := "loop.example/pub-shellpatterns/laws.FnQuoteTwice", spec := "fnQuoteTwice", inPlace := ["internal/abi.NoEscape"], apart := false, narrowed := true }
def FnQuoteTwiceUptoSaid : Prop := fnQuoteTwiceUptoRow.holds Try.pinned (OpenSpec.upto fnQuoteTwiceSpec)

/-- 'laws.FnQuoteMeta', WHERE WHAT IT READS IS OF BULK AT MOST 1048576: true; the input reads as it did. -/
def fnQuoteMetaUptoRow : OpenClaim := { program := "ytmgdljhamplgiaa", sum := "e24791c3294b49fa618804c8db5488ac46325dfad0942c0af3db099555ea6862", func := "loop.example/pub-shellpatterns/laws.FnQuoteMeta", spec := "fnQuoteMeta", inPlace := ["internal/abi.NoEscape"], apart := false, narrowed := true }
def FnQuoteMetaUptoSaid : Prop := fnQuoteMetaUptoRow.holds Try.pinned (OpenSpec.upto fnQuoteMetaSpec)

end Rows
end Go.Proofs.Ytmgdljhamplgiaa
