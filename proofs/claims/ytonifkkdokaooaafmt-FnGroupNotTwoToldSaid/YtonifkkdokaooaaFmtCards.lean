/-
  DERIVED. GIVEN WITH THE SEED: THE CARDS: each row of YtonifkkdokaooaaFmtRows.lean that lists a variable, with what it lists TIED to the program's text (the seventh form; the later family's looks); each row that meets fmt, with fmt's text TOLD by the authors' own Lean function (tested against real Go, not proved from fmt's source: count such statements apart). THE CARD IS WHAT COUNTS. Prove the row's statement (the work); the ties are given (YtonifkkdokaooaaFmtTie.lean); close each card by the builder's one call (the guide's Derived/Test/ToyasCard.lean, 'card_holds'). Laid BY PROGRAM, IN A SANDBOX (cutbox-door.mjs). By AI agents, Wed Nov 11 2026. No macro, syntax, notation, axiom, sorry.
-/
import Derived.Test.YtonifkkdokaooaaFmtRows
import GoSem.ClaimSeven
namespace Go.Proofs.YtonifkkdokaooaaFmt
namespace Rows

/-- THE TOLD AND TIED CARD OF 'laws.FnClassAlnum'. -/
def fnClassAlnumCard : Claim7 := { stood := { row := fnClassAlnumRow, standIns := [], harness := (true, "5a24f45af28d85a92cfa7d032e7df29d9afbee38f8c6455dcf83f33b4b6214fc"), looks := true }, told := true, laidByText := true, laidKinds := [.data, .handle, .sentinel, .data, .data, .pinned], laidTests := true, laidLooks := .later, goes := false }
def FnClassAlnumToldSaid : Prop := Claim7.holds Tryf.pinned (.plain (OpenSpec.ofChange fnClassAlnumSpec)) fnClassAlnumCard
/-- ITS FALSE NEIGHBOUR. Refute it at one input. -/
def FnClassAlnumToldWrongFalsely : Prop := Claim7.holds Tryf.pinned (.plain (OpenSpec.ofChange fnClassAlnumWrong)) fnClassAlnumCard

/-- THE TOLD AND TIED CARD OF 'laws.FnClassAlpha'. -/
def fnClassAlphaCard : Claim7 := { stood := { row := fnClassAlphaRow, standIns := [], harness := (true, "5a24f45af28d85a92cfa7d032e7df29d9afbee38f8c6455dcf83f33b4b6214fc"), looks := true }, told := true, laidByText := true, laidKinds := [.data, .handle, .sentinel, .data, .data, .pinned], laidTests := true, laidLooks := .later, goes := false }
def FnClassAlphaToldSaid : Prop := Claim7.holds Tryf.pinned (.plain (OpenSpec.ofChange fnClassAlphaSpec)) fnClassAlphaCard
/-- ITS FALSE NEIGHBOUR. Refute it at one input. -/
def FnClassAlphaToldWrongFalsely : Prop := Claim7.holds Tryf.pinned (.plain (OpenSpec.ofChange fnClassAlphaWrong)) fnClassAlphaCard

/-- THE TOLD AND TIED CARD OF 'laws.FnClassBlank'. -/
def fnClassBlankCard : Claim7 := { stood := { row := fnClassBlankRow, standIns := [], harness := (true, "5a24f45af28d85a92cfa7d032e7df29d9afbee38f8c6455dcf83f33b4b6214fc"), looks := true }, told := true, laidByText := true, laidKinds := [.data, .handle, .sentinel, .data, .data, .pinned], laidTests := true, laidLooks := .later, goes := false }
def FnClassBlankToldSaid : Prop := Claim7.holds Tryf.pinned (.plain (OpenSpec.ofChange fnClassBlankSpec)) fnClassBlankCard
/-- ITS FALSE NEIGHBOUR. Refute it at one input. -/
def FnClassBlankToldWrongFalsely : Prop := Claim7.holds Tryf.pinned (.plain (OpenSpec.ofChange fnClassBlankWrong)) fnClassBlankCard

/-- THE TOLD AND TIED CARD OF 'laws.FnClassCntrl'. -/
def fnClassCntrlCard : Claim7 := { stood := { row := fnClassCntrlRow, standIns := [], harness := (true, "5a24f45af28d85a92cfa7d032e7df29d9afbee38f8c6455dcf83f33b4b6214fc"), looks := true }, told := true, laidByText := true, laidKinds := [.data, .handle, .sentinel, .data, .data, .pinned], laidTests := true, laidLooks := .later, goes := false }
def FnClassCntrlToldSaid : Prop := Claim7.holds Tryf.pinned (.plain (OpenSpec.ofChange fnClassCntrlSpec)) fnClassCntrlCard
/-- ITS FALSE NEIGHBOUR. Refute it at one input. -/
def FnClassCntrlToldWrongFalsely : Prop := Claim7.holds Tryf.pinned (.plain (OpenSpec.ofChange fnClassCntrlWrong)) fnClassCntrlCard

/-- THE TOLD AND TIED CARD OF 'laws.FnClassDigit'. -/
def fnClassDigitCard : Claim7 := { stood := { row := fnClassDigitRow, standIns := [], harness := (true, "5a24f45af28d85a92cfa7d032e7df29d9afbee38f8c6455dcf83f33b4b6214fc"), looks := true }, told := true, laidByText := true, laidKinds := [.data, .handle, .sentinel, .data, .data, .pinned], laidTests := true, laidLooks := .later, goes := false }
def FnClassDigitToldSaid : Prop := Claim7.holds Tryf.pinned (.plain (OpenSpec.ofChange fnClassDigitSpec)) fnClassDigitCard
/-- ITS FALSE NEIGHBOUR. Refute it at one input. -/
def FnClassDigitToldWrongFalsely : Prop := Claim7.holds Tryf.pinned (.plain (OpenSpec.ofChange fnClassDigitWrong)) fnClassDigitCard

/-- THE TOLD AND TIED CARD OF 'laws.FnClassGraph'. -/
def fnClassGraphCard : Claim7 := { stood := { row := fnClassGraphRow, standIns := [], harness := (true, "5a24f45af28d85a92cfa7d032e7df29d9afbee38f8c6455dcf83f33b4b6214fc"), looks := true }, told := true, laidByText := true, laidKinds := [.data, .handle, .sentinel, .data, .data, .pinned], laidTests := true, laidLooks := .later, goes := false }
def FnClassGraphToldSaid : Prop := Claim7.holds Tryf.pinned (.plain (OpenSpec.ofChange fnClassGraphSpec)) fnClassGraphCard
/-- ITS FALSE NEIGHBOUR. Refute it at one input. -/
def FnClassGraphToldWrongFalsely : Prop := Claim7.holds Tryf.pinned (.plain (OpenSpec.ofChange fnClassGraphWrong)) fnClassGraphCard

/-- THE TOLD AND TIED CARD OF 'laws.FnClassLower'. -/
def fnClassLowerCard : Claim7 := { stood := { row := fnClassLowerRow, standIns := [], harness := (true, "5a24f45af28d85a92cfa7d032e7df29d9afbee38f8c6455dcf83f33b4b6214fc"), looks := true }, told := true, laidByText := true, laidKinds := [.data, .handle, .sentinel, .data, .data, .pinned], laidTests := true, laidLooks := .later, goes := false }
def FnClassLowerToldSaid : Prop := Claim7.holds Tryf.pinned (.plain (OpenSpec.ofChange fnClassLowerSpec)) fnClassLowerCard
/-- ITS FALSE NEIGHBOUR. Refute it at one input. -/
def FnClassLowerToldWrongFalsely : Prop := Claim7.holds Tryf.pinned (.plain (OpenSpec.ofChange fnClassLowerWrong)) fnClassLowerCard

/-- THE TOLD AND TIED CARD OF 'laws.FnClassPrint'. -/
def fnClassPrintCard : Claim7 := { stood := { row := fnClassPrintRow, standIns := [], harness := (true, "5a24f45af28d85a92cfa7d032e7df29d9afbee38f8c6455dcf83f33b4b6214fc"), looks := true }, told := true, laidByText := true, laidKinds := [.data, .handle, .sentinel, .data, .data, .pinned], laidTests := true, laidLooks := .later, goes := false }
def FnClassPrintToldSaid : Prop := Claim7.holds Tryf.pinned (.plain (OpenSpec.ofChange fnClassPrintSpec)) fnClassPrintCard
/-- ITS FALSE NEIGHBOUR. Refute it at one input. -/
def FnClassPrintToldWrongFalsely : Prop := Claim7.holds Tryf.pinned (.plain (OpenSpec.ofChange fnClassPrintWrong)) fnClassPrintCard

/-- THE TOLD AND TIED CARD OF 'laws.FnClassPunct'. -/
def fnClassPunctCard : Claim7 := { stood := { row := fnClassPunctRow, standIns := [], harness := (true, "5a24f45af28d85a92cfa7d032e7df29d9afbee38f8c6455dcf83f33b4b6214fc"), looks := true }, told := true, laidByText := true, laidKinds := [.data, .handle, .sentinel, .data, .data, .pinned], laidTests := true, laidLooks := .later, goes := false }
def FnClassPunctToldSaid : Prop := Claim7.holds Tryf.pinned (.plain (OpenSpec.ofChange fnClassPunctSpec)) fnClassPunctCard
/-- ITS FALSE NEIGHBOUR. Refute it at one input. -/
def FnClassPunctToldWrongFalsely : Prop := Claim7.holds Tryf.pinned (.plain (OpenSpec.ofChange fnClassPunctWrong)) fnClassPunctCard

/-- THE TOLD AND TIED CARD OF 'laws.FnClassSpace'. -/
def fnClassSpaceCard : Claim7 := { stood := { row := fnClassSpaceRow, standIns := [], harness := (true, "5a24f45af28d85a92cfa7d032e7df29d9afbee38f8c6455dcf83f33b4b6214fc"), looks := true }, told := true, laidByText := true, laidKinds := [.data, .handle, .sentinel, .data, .data, .pinned], laidTests := true, laidLooks := .later, goes := false }
def FnClassSpaceToldSaid : Prop := Claim7.holds Tryf.pinned (.plain (OpenSpec.ofChange fnClassSpaceSpec)) fnClassSpaceCard
/-- ITS FALSE NEIGHBOUR. Refute it at one input. -/
def FnClassSpaceToldWrongFalsely : Prop := Claim7.holds Tryf.pinned (.plain (OpenSpec.ofChange fnClassSpaceWrong)) fnClassSpaceCard

/-- THE TOLD AND TIED CARD OF 'laws.FnClassUpper'. -/
def fnClassUpperCard : Claim7 := { stood := { row := fnClassUpperRow, standIns := [], harness := (true, "5a24f45af28d85a92cfa7d032e7df29d9afbee38f8c6455dcf83f33b4b6214fc"), looks := true }, told := true, laidByText := true, laidKinds := [.data, .handle, .sentinel, .data, .data, .pinned], laidTests := true, laidLooks := .later, goes := false }
def FnClassUpperToldSaid : Prop := Claim7.holds Tryf.pinned (.plain (OpenSpec.ofChange fnClassUpperSpec)) fnClassUpperCard
/-- ITS FALSE NEIGHBOUR. Refute it at one input. -/
def FnClassUpperToldWrongFalsely : Prop := Claim7.holds Tryf.pinned (.plain (OpenSpec.ofChange fnClassUpperWrong)) fnClassUpperCard

/-- THE TOLD AND TIED CARD OF 'laws.FnClassXdigit'. -/
def fnClassXdigitCard : Claim7 := { stood := { row := fnClassXdigitRow, standIns := [], harness := (true, "5a24f45af28d85a92cfa7d032e7df29d9afbee38f8c6455dcf83f33b4b6214fc"), looks := true }, told := true, laidByText := true, laidKinds := [.data, .handle, .sentinel, .data, .data, .pinned], laidTests := true, laidLooks := .later, goes := false }
def FnClassXdigitToldSaid : Prop := Claim7.holds Tryf.pinned (.plain (OpenSpec.ofChange fnClassXdigitSpec)) fnClassXdigitCard
/-- ITS FALSE NEIGHBOUR. Refute it at one input. -/
def FnClassXdigitToldWrongFalsely : Prop := Claim7.holds Tryf.pinned (.plain (OpenSpec.ofChange fnClassXdigitWrong)) fnClassXdigitCard

/-- THE TOLD AND TIED CARD OF 'laws.FnGroupNotTwo'. -/
def fnGroupNotTwoCard : Claim7 := { stood := { row := fnGroupNotTwoRow, standIns := [], harness := (true, "5a24f45af28d85a92cfa7d032e7df29d9afbee38f8c6455dcf83f33b4b6214fc"), looks := true }, told := true, laidByText := true, laidKinds := [.data, .handle, .sentinel, .pinned], laidTests := true, laidLooks := .later, goes := false }
def FnGroupNotTwoToldSaid : Prop := Claim7.holds Tryf.pinned (.plain (OpenSpec.ofChange fnGroupNotTwoSpec)) fnGroupNotTwoCard
/-- ITS FALSE NEIGHBOUR. Refute it at one input. -/
def FnGroupNotTwoToldWrongFalsely : Prop := Claim7.holds Tryf.pinned (.plain (OpenSpec.ofChange fnGroupNotTwoWrong)) fnGroupNotTwoCard
end Rows
end Go.Proofs.YtonifkkdokaooaaFmt
