/-
  DERIVED. GIVEN WITH THE SEED: THE CARDS: each row of YtjoefmnkbcoblaaFmtRows.lean that lists a variable, with what it lists TIED to the program's text (the seventh form; the later family's looks); each row that meets fmt, with fmt's text TOLD by the authors' own Lean function (tested against real Go, not proved from fmt's source: count such statements apart). THE CARD IS WHAT COUNTS. Prove the row's statement (the work); the ties are given (YtjoefmnkbcoblaaFmtTie.lean); close each card by the builder's one call (the guide's Derived/Test/ToyasCard.lean, 'card_holds'). Laid BY PROGRAM, IN A SANDBOX (cutbox-door.mjs). By AI agents, Wed Nov 11 2026. No macro, syntax, notation, axiom, sorry.
-/
import Derived.Test.YtjoefmnkbcoblaaFmtRows
import GoSem.ClaimSeven
namespace Go.Proofs.YtjoefmnkbcoblaaFmt
namespace Rows

/-- THE TOLD AND TIED CARD OF 'laws.FnRegexpTwice'. -/
def fnRegexpTwiceCard : Claim7 := { stood := { row := fnRegexpTwiceRow, standIns := [], harness := (true, "2e3a8e17da8d0ff71c97adc518ad2d0f4bb1a53fde3fa286b7b8ff8fa93e9095"), looks := true }, told := true, laidByText := true, laidKinds := [.data, .handle, .sentinel, .data, .data, .pinned], laidTests := true, laidLooks := .later, goes := false }
def FnRegexpTwiceToldSaid : Prop := Claim7.holds Tryf.pinned (.plain (OpenSpec.ofChange fnRegexpTwiceSpec)) fnRegexpTwiceCard
/-- ITS FALSE NEIGHBOUR. Refute it at one input. -/
def FnRegexpTwiceToldWrongFalsely : Prop := Claim7.holds Tryf.pinned (.plain (OpenSpec.ofChange fnRegexpTwiceWrong)) fnRegexpTwiceCard

/-- THE TOLD AND TIED CARD OF 'laws.FnGroupJust'. -/
def fnGroupJustCard : Claim7 := { stood := { row := fnGroupJustRow, standIns := [], harness := (true, "2e3a8e17da8d0ff71c97adc518ad2d0f4bb1a53fde3fa286b7b8ff8fa93e9095"), looks := true }, told := true, laidByText := true, laidKinds := [.data, .handle, .sentinel, .data, .data, .pinned], laidTests := true, laidLooks := .later, goes := false }
def FnGroupJustToldSaid : Prop := Claim7.holds Tryf.pinned (.plain (OpenSpec.ofChange fnGroupJustSpec)) fnGroupJustCard
/-- ITS FALSE NEIGHBOUR. Refute it at one input. -/
def FnGroupJustToldWrongFalsely : Prop := Claim7.holds Tryf.pinned (.plain (OpenSpec.ofChange fnGroupJustWrong)) fnGroupJustCard

/-- THE TOLD AND TIED CARD OF 'laws.FnGroupMany'. -/
def fnGroupManyCard : Claim7 := { stood := { row := fnGroupManyRow, standIns := [], harness := (true, "2e3a8e17da8d0ff71c97adc518ad2d0f4bb1a53fde3fa286b7b8ff8fa93e9095"), looks := true }, told := true, laidByText := true, laidKinds := [.data, .handle, .sentinel, .data, .data, .pinned], laidTests := true, laidLooks := .later, goes := false }
def FnGroupManyToldSaid : Prop := Claim7.holds Tryf.pinned (.plain (OpenSpec.ofChange fnGroupManySpec)) fnGroupManyCard
/-- ITS FALSE NEIGHBOUR. Refute it at one input. -/
def FnGroupManyToldWrongFalsely : Prop := Claim7.holds Tryf.pinned (.plain (OpenSpec.ofChange fnGroupManyWrong)) fnGroupManyCard

/-- THE TOLD AND TIED CARD OF 'laws.FnGroupMore'. -/
def fnGroupMoreCard : Claim7 := { stood := { row := fnGroupMoreRow, standIns := [], harness := (true, "2e3a8e17da8d0ff71c97adc518ad2d0f4bb1a53fde3fa286b7b8ff8fa93e9095"), looks := true }, told := true, laidByText := true, laidKinds := [.data, .handle, .sentinel, .data, .data, .pinned], laidTests := true, laidLooks := .later, goes := false }
def FnGroupMoreToldSaid : Prop := Claim7.holds Tryf.pinned (.plain (OpenSpec.ofChange fnGroupMoreSpec)) fnGroupMoreCard
/-- ITS FALSE NEIGHBOUR. Refute it at one input. -/
def FnGroupMoreToldWrongFalsely : Prop := Claim7.holds Tryf.pinned (.plain (OpenSpec.ofChange fnGroupMoreWrong)) fnGroupMoreCard

/-- THE TOLD AND TIED CARD OF 'laws.FnGroupOpt'. -/
def fnGroupOptCard : Claim7 := { stood := { row := fnGroupOptRow, standIns := [], harness := (true, "2e3a8e17da8d0ff71c97adc518ad2d0f4bb1a53fde3fa286b7b8ff8fa93e9095"), looks := true }, told := true, laidByText := true, laidKinds := [.data, .handle, .sentinel, .data, .data, .pinned], laidTests := true, laidLooks := .later, goes := false }
def FnGroupOptToldSaid : Prop := Claim7.holds Tryf.pinned (.plain (OpenSpec.ofChange fnGroupOptSpec)) fnGroupOptCard
/-- ITS FALSE NEIGHBOUR. Refute it at one input. -/
def FnGroupOptToldWrongFalsely : Prop := Claim7.holds Tryf.pinned (.plain (OpenSpec.ofChange fnGroupOptWrong)) fnGroupOptCard

/-- THE TOLD AND TIED CARD OF 'laws.FnGroupPlain'. -/
def fnGroupPlainCard : Claim7 := { stood := { row := fnGroupPlainRow, standIns := [], harness := (true, "2e3a8e17da8d0ff71c97adc518ad2d0f4bb1a53fde3fa286b7b8ff8fa93e9095"), looks := true }, told := true, laidByText := true, laidKinds := [.data, .handle, .sentinel, .data, .data, .pinned], laidTests := true, laidLooks := .later, goes := false }
def FnGroupPlainToldSaid : Prop := Claim7.holds Tryf.pinned (.plain (OpenSpec.ofChange fnGroupPlainSpec)) fnGroupPlainCard
/-- ITS FALSE NEIGHBOUR. Refute it at one input. -/
def FnGroupPlainToldWrongFalsely : Prop := Claim7.holds Tryf.pinned (.plain (OpenSpec.ofChange fnGroupPlainWrong)) fnGroupPlainCard

/-- THE TOLD AND TIED CARD OF 'laws.FnGroupPlainAny'. -/
def fnGroupPlainAnyCard : Claim7 := { stood := { row := fnGroupPlainAnyRow, standIns := [], harness := (true, "2e3a8e17da8d0ff71c97adc518ad2d0f4bb1a53fde3fa286b7b8ff8fa93e9095"), looks := true }, told := true, laidByText := true, laidKinds := [.data, .handle, .sentinel, .data, .data, .pinned], laidTests := true, laidLooks := .later, goes := false }
def FnGroupPlainAnyToldSaid : Prop := Claim7.holds Tryf.pinned (.plain (OpenSpec.ofChange fnGroupPlainAnySpec)) fnGroupPlainAnyCard
/-- ITS FALSE NEIGHBOUR. Refute it at one input. -/
def FnGroupPlainAnyToldWrongFalsely : Prop := Claim7.holds Tryf.pinned (.plain (OpenSpec.ofChange fnGroupPlainAnyWrong)) fnGroupPlainAnyCard

/-- THE TOLD AND TIED CARD OF 'laws.FnGroupPlainText'. -/
def fnGroupPlainTextCard : Claim7 := { stood := { row := fnGroupPlainTextRow, standIns := [], harness := (true, "2e3a8e17da8d0ff71c97adc518ad2d0f4bb1a53fde3fa286b7b8ff8fa93e9095"), looks := true }, told := true, laidByText := true, laidKinds := [.data, .handle, .sentinel, .data, .data, .pinned], laidTests := true, laidLooks := .later, goes := false }
def FnGroupPlainTextToldSaid : Prop := Claim7.holds Tryf.pinned (.plain (OpenSpec.ofChange fnGroupPlainTextSpec)) fnGroupPlainTextCard
/-- ITS FALSE NEIGHBOUR. Refute it at one input. -/
def FnGroupPlainTextToldWrongFalsely : Prop := Claim7.holds Tryf.pinned (.plain (OpenSpec.ofChange fnGroupPlainTextWrong)) fnGroupPlainTextCard

/-- THE TOLD AND TIED CARD OF 'laws.FnRegexpAny'. -/
def fnRegexpAnyCard : Claim7 := { stood := { row := fnRegexpAnyRow, standIns := [], harness := (true, "2e3a8e17da8d0ff71c97adc518ad2d0f4bb1a53fde3fa286b7b8ff8fa93e9095"), looks := true }, told := true, laidByText := true, laidKinds := [.data, .handle, .sentinel, .data, .data, .pinned], laidTests := true, laidLooks := .later, goes := false }
def FnRegexpAnyToldSaid : Prop := Claim7.holds Tryf.pinned (.plain (OpenSpec.ofChange fnRegexpAnySpec)) fnRegexpAnyCard
/-- ITS FALSE NEIGHBOUR. Refute it at one input. -/
def FnRegexpAnyToldWrongFalsely : Prop := Claim7.holds Tryf.pinned (.plain (OpenSpec.ofChange fnRegexpAnyWrong)) fnRegexpAnyCard

/-- THE TOLD AND TIED CARD OF 'laws.FnRegexpFault'. -/
def fnRegexpFaultCard : Claim7 := { stood := { row := fnRegexpFaultRow, standIns := [], harness := (true, "2e3a8e17da8d0ff71c97adc518ad2d0f4bb1a53fde3fa286b7b8ff8fa93e9095"), looks := true }, told := true, laidByText := true, laidKinds := [.data, .handle, .sentinel, .data, .data, .pinned], laidTests := true, laidLooks := .later, goes := false }
def FnRegexpFaultToldSaid : Prop := Claim7.holds Tryf.pinned (.plain (OpenSpec.ofChange fnRegexpFaultSpec)) fnRegexpFaultCard
/-- ITS FALSE NEIGHBOUR. Refute it at one input. -/
def FnRegexpFaultToldWrongFalsely : Prop := Claim7.holds Tryf.pinned (.plain (OpenSpec.ofChange fnRegexpFaultWrong)) fnRegexpFaultCard

/-- THE TOLD AND TIED CARD OF 'laws.FnRegexpStar'. -/
def fnRegexpStarCard : Claim7 := { stood := { row := fnRegexpStarRow, standIns := [], harness := (true, "2e3a8e17da8d0ff71c97adc518ad2d0f4bb1a53fde3fa286b7b8ff8fa93e9095"), looks := true }, told := true, laidByText := true, laidKinds := [.data, .handle, .sentinel, .data, .data, .pinned], laidTests := true, laidLooks := .later, goes := false }
def FnRegexpStarToldSaid : Prop := Claim7.holds Tryf.pinned (.plain (OpenSpec.ofChange fnRegexpStarSpec)) fnRegexpStarCard
/-- ITS FALSE NEIGHBOUR. Refute it at one input. -/
def FnRegexpStarToldWrongFalsely : Prop := Claim7.holds Tryf.pinned (.plain (OpenSpec.ofChange fnRegexpStarWrong)) fnRegexpStarCard

/-- THE TOLD AND TIED CARD OF 'laws.FnRegexpText'. -/
def fnRegexpTextCard : Claim7 := { stood := { row := fnRegexpTextRow, standIns := [], harness := (true, "2e3a8e17da8d0ff71c97adc518ad2d0f4bb1a53fde3fa286b7b8ff8fa93e9095"), looks := true }, told := true, laidByText := true, laidKinds := [.data, .handle, .sentinel, .data, .data, .pinned], laidTests := true, laidLooks := .later, goes := false }
def FnRegexpTextToldSaid : Prop := Claim7.holds Tryf.pinned (.plain (OpenSpec.ofChange fnRegexpTextSpec)) fnRegexpTextCard
/-- ITS FALSE NEIGHBOUR. Refute it at one input. -/
def FnRegexpTextToldWrongFalsely : Prop := Claim7.holds Tryf.pinned (.plain (OpenSpec.ofChange fnRegexpTextWrong)) fnRegexpTextCard
end Rows
end Go.Proofs.YtjoefmnkbcoblaaFmt
