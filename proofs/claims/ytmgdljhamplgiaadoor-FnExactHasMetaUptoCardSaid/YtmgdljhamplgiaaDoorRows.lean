/-
  NARROWER THAN 'FOR EVERY INPUT', by the rows' own cells (each row's printed sentence says how): FnExactHasMeta: loops, laid · FnHasMetaJoin: loops, laid.
  DERIVED. THE GIVEN ROWS OF THIS SEAT. 2 by the template 'for every input the law returns true; each argument reads behind the call as it read before'; 0 by the template 'total and deterministic' (their statements: YtmgdljhamplgiaaDoorTotals.lean).
  GIVEN WITH THE SEED: the statements are not yours to turn. If you find one false, say at which input.
  Laid BY PROGRAM, IN A SANDBOX (cutbox-rows.mjs): the forced cells as the released guide's own fill.sh prints them over the translation 8177d9751965ea40… (all of the seat's roots in one cut). By AI agents, Wed Nov 11 2026. No macro, syntax, notation, axiom, sorry.
-/
import Derived.Test.YtmgdljhamplgiaaDoorChecked
import GoSem.Claim
import GoSem.ClaimJoined
import GoSem.ClaimMapViews
import Derived.JoinedTies
import Derived.KernelRfl
namespace Go.Proofs.YtmgdljhamplgiaaDoor
/- THE CELL 'sum', in the pinned program and in every row, IS THE sha256 OF THE DUMP (.gsa) THAT YtmgdljhamplgiaaDoorProg.lean LOADS. Nothing in Lean hashes anything: it is a label: what it is worth is what the hold of that sum in a sandbox is worth. -/
noncomputable def Tryd.pinned : Pinned := { name := "ytmgdljhamplgiaadoor", sum := "8177d9751965ea40088b9eb7df10bcab80231f1faa69045828cfebb37f808219", checked := Tryd.checked }
namespace Rows
def none {H : Type} : Left H := { results := [], args := [] }

/- WHAT THE LISTED PACKAGE-LEVEL VARIABLES READ AS WHEN THE CALL BEGINS. Each datum BY PROGRAM (the guide's laid-datum.mjs) off the statement by which the dump's own 'gosem.cut.vars' lays the variable. In a bare row this is a premise. The card (YtmgdljhamplgiaaDoorCards.lean) ties it to the program's text. -/
def laid_loop_example_pub_shellpatterns_spec_classNames {H : Type} : DataW H := .slice [.lit (.string []), .lit (.string [97, 108, 110, 117, 109]), .lit (.string [97, 108, 112, 104, 97]), .lit (.string [98, 108, 97, 110, 107]), .lit (.string [99, 110, 116, 114, 108]), .lit (.string [100, 105, 103, 105, 116]), .lit (.string [103, 114, 97, 112, 104]), .lit (.string [108, 111, 119, 101, 114]), .lit (.string [112, 114, 105, 110, 116]), .lit (.string [112, 117, 110, 99, 116]), .lit (.string [115, 112, 97, 99, 101]), .lit (.string [117, 112, 112, 101, 114]), .lit (.string [120, 100, 105, 103, 105, 116])] []

/-- 'laws.FnExactHasMeta': WHATEVER THE INPUT: true; the input reads as it did. -/
def fnExactHasMetaSpec : ChangeSpec := { name := "fnExactHasMeta", vars := ["loop.example/pub-shellpatterns/spec.classNames"], fn := fun _ => fun
  | [d, g1] => { results := [.lit (.bool true)], args := [d], vars := [g1] }
  | _ => none }
def fnExactHasMetaRow : OpenClaim := { program := "ytmgdljhamplgiaadoor", sum := "8177d9751965ea40088b9eb7df10bcab80231f1faa69045828cfebb37f808219", func := "loop.example/pub-shellpatterns/laws.FnExactHasMeta", spec := "fnExactHasMeta", recurses := true, named := ["loop.example/pub-shellpatterns/spec.classNames"], loops := true, apart := false, laid := [("loop.example/pub-shellpatterns/spec.classNames", laid_loop_example_pub_shellpatterns_spec_classNames)] }
def FnExactHasMetaSaid : Prop := fnExactHasMetaRow.holds Tryd.pinned (OpenSpec.ofChange fnExactHasMetaSpec)

/-- ITS FALSE NEIGHBOUR: 'it returns false'. Refute it at one input. -/
def fnExactHasMetaWrong : ChangeSpec := { name := "fnExactHasMeta", vars := ["loop.example/pub-shellpatterns/spec.classNames"], fn := fun _ => fun
  | [d, g1] => { results := [.lit (.bool false)], args := [d], vars := [g1] }
  | _ => none }
def FnExactHasMetaWrongFalsely : Prop := fnExactHasMetaRow.holds Tryd.pinned (OpenSpec.ofChange fnExactHasMetaWrong)

/-- 'laws.FnHasMetaJoin': WHATEVER THE INPUT: true; the input reads as it did. -/
def fnHasMetaJoinSpec : ChangeSpec := { name := "fnHasMetaJoin", vars := ["loop.example/pub-shellpatterns/spec.classNames"], fn := fun _ => fun
  | [d1, d2, g1] => { results := [.lit (.bool true)], args := [d1, d2], vars := [g1] }
  | _ => none }
def fnHasMetaJoinRow : OpenClaim := { program := "ytmgdljhamplgiaadoor", sum := "8177d9751965ea40088b9eb7df10bcab80231f1faa69045828cfebb37f808219", func := "loop.example/pub-shellpatterns/laws.FnHasMetaJoin", spec := "fnHasMetaJoin", recurses := true, named := ["loop.example/pub-shellpatterns/spec.classNames"], loops := true, apart := false, laid := [("loop.example/pub-shellpatterns/spec.classNames", laid_loop_example_pub_shellpatterns_spec_classNames)] }
def FnHasMetaJoinSaid : Prop := fnHasMetaJoinRow.holds Tryd.pinned (OpenSpec.ofChange fnHasMetaJoinSpec)

/-- ITS FALSE NEIGHBOUR: 'it returns false'. Refute it at one input. -/
def fnHasMetaJoinWrong : ChangeSpec := { name := "fnHasMetaJoin", vars := ["loop.example/pub-shellpatterns/spec.classNames"], fn := fun _ => fun
  | [d1, d2, g1] => { results := [.lit (.bool false)], args := [d1, d2], vars := [g1] }
  | _ => none }
def FnHasMetaJoinWrongFalsely : Prop := fnHasMetaJoinRow.holds Tryd.pinned (OpenSpec.ofChange fnHasMetaJoinWrong)

/- THE SECOND FORM. 'bulk': how many values and letters a reading holds, each counted each time it is reached (what is shared counts as often as it is met; a slice's spare places count too). A statement '..UptoSaid' is the law's where the arguments, and the package variables that the reading takes, are together of bulk at most 1048576: NARROWER than '..Said'. Prove '..Said' where nothing that the law and all that it calls make is longer than what came in: it says more and counts as full. Else prove '..UptoSaid'. A law counts once. -/
mutual
def uptoBulk {H : Type} : DataW H → Nat
  | .lit (.string bytes) => bytes.length + 1
  | .lit _ => 1
  | .nil => 1
  | .ptr d => uptoBulk d + 1
  | .slice elems spare => uptoBulkAll elems + uptoBulkAll spare + 1
  | .agg parts => uptoBulkAll parts + 1
  | .iface _ d => uptoBulk d + 1
  | .map entries => uptoBulkEntries entries + 1
  | .held _ => 1
def uptoBulkAll {H : Type} : List (DataW H) → Nat
  | [] => 0
  | d :: r => uptoBulk d + uptoBulkAll r
def uptoBulkEntries {H : Type} : List (Lit × DataW H) → Nat
  | [] => 0
  | x :: r => uptoBulkEntry x + uptoBulkEntries r
def uptoBulkEntry {H : Type} : Lit × DataW H → Nat
  | (.string bytes, d) => bytes.length + uptoBulk d + 1
  | (_, d) => uptoBulk d + 1
 end
def uptoSmall : (H : Type) → List (DataW H) → Bool := fun _ ds => decide (uptoBulkAll ds ≤ 1048576)
def OpenSpec.upto (s : _root_.Go.ChangeSpec) : _root_.Go.OpenSpec := { _root_.Go.OpenSpec.ofChange s with cond := some uptoSmall }

/-- 'laws.FnExactHasMeta', WHERE WHAT IT READS IS OF BULK AT MOST 1048576: true; the input reads as it did. -/
def fnExactHasMetaUptoRow : OpenClaim := { program := "ytmgdljhamplgiaadoor", sum := "8177d9751965ea40088b9eb7df10bcab80231f1faa69045828cfebb37f808219", func := "loop.example/pub-shellpatterns/laws.FnExactHasMeta", spec := "fnExactHasMeta", recurses := true, named := ["loop.example/pub-shellpatterns/spec.classNames"], loops := true, apart := false, laid := [("loop.example/pub-shellpatterns/spec.classNames", laid_loop_example_pub_shellpatterns_spec_classNames)], narrowed := true }
def FnExactHasMetaUptoSaid : Prop := fnExactHasMetaUptoRow.holds Tryd.pinned (OpenSpec.upto fnExactHasMetaSpec)

/-- 'laws.FnHasMetaJoin', WHERE WHAT IT READS IS OF BULK AT MOST 1048576: true; the input reads as it did. -/
def fnHasMetaJoinUptoRow : OpenClaim := { program := "ytmgdljhamplgiaadoor", sum := "8177d9751965ea40088b9eb7df10bcab80231f1faa69045828cfebb37f808219", func := "loop.example/pub-shellpatterns/laws.FnHasMetaJoin", spec := "fnHasMetaJoin", recurses := true, named := ["loop.example/pub-shellpatterns/spec.classNames"], loops := true, apart := false, laid := [("loop.example/pub-shellpatterns/spec.classNames", laid_loop_example_pub_shellpatterns_spec_classNames)], narrowed := true }
def FnHasMetaJoinUptoSaid : Prop := fnHasMetaJoinUptoRow.holds Tryd.pinned (OpenSpec.upto fnHasMetaJoinSpec)

end Rows
end Go.Proofs.YtmgdljhamplgiaaDoor
