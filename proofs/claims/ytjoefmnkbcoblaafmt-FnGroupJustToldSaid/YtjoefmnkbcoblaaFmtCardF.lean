/- Closed facts of the program that each card of this seat asks. -/
import Derived.Test.YtjoefmnkbcoblaaFmtCards
import Derived.Test.YtjoefmnkbcoblaaFmtTie
import Derived.SevenTiedAt
namespace Go.Proofs.YtjoefmnkbcoblaaFmt.card
open Go.Extern.Stop Go.Stop Go.Extern
set_option maxRecDepth 100000
theorem own : ownKnob Tryf.prog.godebug = none := by kernel_rfl
theorem stops : Tryf.pinned.checked.prog.stops = ["fmt.Sprintf", "fmt.errorf"] := by kernel_rfl
theorem stopKnobs : Tryf.pinned.checked.prog.stopKnobs = [] := by kernel_rfl
theorem quiet (os : Os) : Stop.quiet Tryf.pinned.checked.prog os := by
  intro k hk
  rw [stopKnobs] at hk
  cases hk
theorem rowed : mapsRowed Tryf.pinned.checked.prog = true := by kernel_rfl
theorem word : Tryf.pinned.checked.prog.envWorded = true := by kernel_rfl
theorem main : Tryf.pinned.checked.prog.mainIs = some (true, "2e3a8e17da8d0ff71c97adc518ad2d0f4bb1a53fde3fa286b7b8ff8fa93e9095".toList) := by kernel_rfl
theorem looks : true = Tryf.pinned.checked.prog.looks [] := by kernel_rfl
theorem mayEnter : Tryf.pinned.checked.prog.mayEnter = true := by kernel_rfl
theorem heard : Tryf.pinned.checked.prog.stopsHeard = true := by kernel_rfl
theorem plainKeys : Rows.fnRegexpFaultRow.plainKeys = Tryf.pinned.checked.prog.plainKeys := by kernel_rfl
theorem lifted : Rows.fnRegexpFaultRow.lifted = Tryf.pinned.checked.prog.liftsFinal := by kernel_rfl
theorem make : Tryf.pinned.checked.prog.make = some Rows.fnRegexpFaultRow.make := by kernel_rfl
end Go.Proofs.YtjoefmnkbcoblaaFmt.card
