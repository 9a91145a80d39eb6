/- Closed facts of the program that each card of this seat asks. -/
import Derived.Test.YtonifkkdokaooaaFmtCards
import Derived.Test.YtonifkkdokaooaaFmtTie
import Derived.SevenTiedAt
namespace Go.Proofs.YtonifkkdokaooaaFmt.card
open Go.Extern.Stop Go.Stop Go.Extern
set_option maxRecDepth 100000
theorem own : ownKnob Tryf.prog.godebug = none := by kernel_rfl
theorem stops : Tryf.pinned.checked.prog.stops = ["fmt.Sprintf", "fmt.errorf"] := by kernel_rfl
theorem stopKnobs : Tryf.pinned.checked.prog.stopKnobs = [] := by kernel_rfl
theorem quiet (os : Os) : Stop.quiet Tryf.pinned.checked.prog os := by
  intro k hk
  rw [stopKnobs] at hk
  cases hk
theorem rowed : mapsRowed Tryf.pinned.checked.prog = true := by kernel_rfl
theorem word : Tryf.pinned.checked.prog.envWorded = true := by kernel_rfl
theorem main : Tryf.pinned.checked.prog.mainIs = some (true, "5a24f45af28d85a92cfa7d032e7df29d9afbee38f8c6455dcf83f33b4b6214fc".toList) := by kernel_rfl
theorem looks : true = Tryf.pinned.checked.prog.looks [] := by kernel_rfl
theorem mayEnter : Tryf.pinned.checked.prog.mayEnter = true := by kernel_rfl
theorem heard : Tryf.pinned.checked.prog.stopsHeard = true := by kernel_rfl
theorem plainKeys : Rows.fnClassAlnumRow.plainKeys = Tryf.pinned.checked.prog.plainKeys := by kernel_rfl
theorem lifted : Rows.fnClassAlnumRow.lifted = Tryf.pinned.checked.prog.liftsFinal := by kernel_rfl
theorem make : Tryf.pinned.checked.prog.make = some Rows.fnClassAlnumRow.make := by kernel_rfl
end Go.Proofs.YtonifkkdokaooaaFmt.card
