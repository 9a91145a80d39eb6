/-
  DERIVED. GIVEN WITH THE SEED: THE CARDS: each row of YtmgdljhamplgiaaDoorRows.lean that lists a variable, with what it lists TIED to the program's text (the seventh form; the later family's looks); each row that meets fmt, with fmt's text TOLD by the authors' own Lean function (tested against real Go, not proved from fmt's source: count such statements apart). THE CARD IS WHAT COUNTS. Prove the row's statement (the work); the ties are given (YtmgdljhamplgiaaDoorTie.lean); close each card by the builder's one call (the guide's Derived/Test/ToyasCard.lean, 'card_holds'). Laid BY PROGRAM, IN A SANDBOX (cutbox-door.mjs). By AI agents, Wed Nov 11 2026. No macro, syntax, notation, axiom, sorry.
-/
import Derived.Test.YtmgdljhamplgiaaDoorRows
import GoSem.ClaimSeven
namespace Go.Proofs.YtmgdljhamplgiaaDoor
namespace Rows

/-- THE TIED CARD OF 'laws.FnExactHasMeta'. -/
def fnExactHasMetaCard : Claim7 := { stood := { row := fnExactHasMetaRow, standIns := [], harness := (true, "5c8bd9bd5096a734ddba715700ff7ff36fd831abb7c281c2efc2930704ee97e6"), looks := false }, kinds := [], alts := [], laidByText := true, laidKinds := [.data], laidTests := true, laidLooks := .later }
def FnExactHasMetaCardSaid : Prop := Claim7.holds Tryd.pinned (.plain (OpenSpec.ofChange fnExactHasMetaSpec)) fnExactHasMetaCard

/-- THE TIED CARD OF 'laws.FnHasMetaJoin'. -/
def fnHasMetaJoinCard : Claim7 := { stood := { row := fnHasMetaJoinRow, standIns := [], harness := (true, "5c8bd9bd5096a734ddba715700ff7ff36fd831abb7c281c2efc2930704ee97e6"), looks := false }, kinds := [], alts := [], laidByText := true, laidKinds := [.data], laidTests := true, laidLooks := .later }
def FnHasMetaJoinCardSaid : Prop := Claim7.holds Tryd.pinned (.plain (OpenSpec.ofChange fnHasMetaJoinSpec)) fnHasMetaJoinCard

/-- THE SECOND FORM's CARD OF 'laws.FnExactHasMeta'. -/
def fnExactHasMetaUptoCard : Claim7 := { stood := { row := fnExactHasMetaUptoRow, standIns := [], harness := (true, "5c8bd9bd5096a734ddba715700ff7ff36fd831abb7c281c2efc2930704ee97e6"), looks := false }, kinds := [], alts := [], laidByText := true, laidKinds := [.data], laidTests := true, laidLooks := .later }
def FnExactHasMetaUptoCardSaid : Prop := Claim7.holds Tryd.pinned (.plain (OpenSpec.upto fnExactHasMetaSpec)) fnExactHasMetaUptoCard

/-- THE SECOND FORM's CARD OF 'laws.FnHasMetaJoin'. -/
def fnHasMetaJoinUptoCard : Claim7 := { stood := { row := fnHasMetaJoinUptoRow, standIns := [], harness := (true, "5c8bd9bd5096a734ddba715700ff7ff36fd831abb7c281c2efc2930704ee97e6"), looks := false }, kinds := [], alts := [], laidByText := true, laidKinds := [.data], laidTests := true, laidLooks := .later }
def FnHasMetaJoinUptoCardSaid : Prop := Claim7.holds Tryd.pinned (.plain (OpenSpec.upto fnHasMetaJoinSpec)) fnHasMetaJoinUptoCard
end Rows
end Go.Proofs.YtmgdljhamplgiaaDoor
