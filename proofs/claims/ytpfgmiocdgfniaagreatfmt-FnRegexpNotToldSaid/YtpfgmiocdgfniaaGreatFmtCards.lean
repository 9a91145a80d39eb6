/-
  DERIVED. GIVEN WITH THE SEED: THE CARDS: each row of YtpfgmiocdgfniaaGreatFmtRows.lean that lists a variable, with what it lists TIED to the program's text (the seventh form; the later family's looks); each row that meets fmt, with fmt's text TOLD by the authors' own Lean function (tested against real Go, not proved from fmt's source: count such statements apart). THE CARD IS WHAT COUNTS. Prove the row's statement (the work); the ties are given (YtpfgmiocdgfniaaGreatFmtTie.lean); close each card by the builder's one call (the guide's Derived/Test/ToyasCard.lean, 'card_holds'). Laid BY PROGRAM, IN A SANDBOX (cutbox-door.mjs). By AI agents, Wed Nov 11 2026. No macro, syntax, notation, axiom, sorry.
-/
import Derived.Test.YtpfgmiocdgfniaaGreatFmtRows
import GoSem.ClaimSeven
namespace Go.Proofs.YtpfgmiocdgfniaaGreatFmt
namespace Rows

/-- THE TOLD AND TIED CARD OF 'laws.FnQuoteRegexp'. -/
def fnQuoteRegexpCard : Claim7 := { stood := { row := fnQuoteRegexpRow, standIns := [], harness := (true, "76223f9938ea31f47b5c0311d17a61b8ad55bdc1aabde09ddada0c5eb8648c3d"), looks := true }, told := true, laidByText := true, laidKinds := [.data, .handle, .sentinel, .data, .data, .pinned], laidTests := true, laidLooks := .later, goes := false }
def FnQuoteRegexpToldSaid : Prop := Claim7.holds Tryz.pinned (.plain (OpenSpec.ofChange fnQuoteRegexpSpec)) fnQuoteRegexpCard
/-- ITS FALSE NEIGHBOUR. Refute it at one input. -/
def FnQuoteRegexpToldWrongFalsely : Prop := Claim7.holds Tryz.pinned (.plain (OpenSpec.ofChange fnQuoteRegexpWrong)) fnQuoteRegexpCard

/-- THE TOLD AND TIED CARD OF 'laws.FnRange'. -/
def fnRangeCard : Claim7 := { stood := { row := fnRangeRow, standIns := [], harness := (true, "76223f9938ea31f47b5c0311d17a61b8ad55bdc1aabde09ddada0c5eb8648c3d"), looks := true }, told := true, laidByText := true, laidKinds := [.data, .handle, .sentinel, .data, .data, .pinned], laidTests := true, laidLooks := .later, goes := false }
def FnRangeToldSaid : Prop := Claim7.holds Tryz.pinned (.plain (OpenSpec.ofChange fnRangeSpec)) fnRangeCard
/-- ITS FALSE NEIGHBOUR. Refute it at one input. -/
def FnRangeToldWrongFalsely : Prop := Claim7.holds Tryz.pinned (.plain (OpenSpec.ofChange fnRangeWrong)) fnRangeCard

/-- THE TOLD AND TIED CARD OF 'laws.FnRegexpNot'. -/
def fnRegexpNotCard : Claim7 := { stood := { row := fnRegexpNotRow, standIns := [], harness := (true, "76223f9938ea31f47b5c0311d17a61b8ad55bdc1aabde09ddada0c5eb8648c3d"), looks := true }, told := true, laidByText := true, laidKinds := [.data, .handle, .sentinel, .data, .data, .pinned], laidTests := true, laidLooks := .later, goes := false }
def FnRegexpNotToldSaid : Prop := Claim7.holds Tryz.pinned (.plain (OpenSpec.ofChange fnRegexpNotSpec)) fnRegexpNotCard
/-- ITS FALSE NEIGHBOUR. Refute it at one input. -/
def FnRegexpNotToldWrongFalsely : Prop := Claim7.holds Tryz.pinned (.plain (OpenSpec.ofChange fnRegexpNotWrong)) fnRegexpNotCard
end Rows
end Go.Proofs.YtpfgmiocdgfniaaGreatFmt
