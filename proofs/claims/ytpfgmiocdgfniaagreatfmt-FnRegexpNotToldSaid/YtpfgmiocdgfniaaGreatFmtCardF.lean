/- Closed facts of the program that each card of this seat asks. -/
import Derived.Test.YtpfgmiocdgfniaaGreatFmtCards
import Derived.Test.YtpfgmiocdgfniaaGreatFmtTie
import Derived.SevenTiedAt
namespace Go.Proofs.YtpfgmiocdgfniaaGreatFmt.card
open Go.Extern.Stop Go.Stop Go.Extern
set_option maxRecDepth 100000
theorem own : ownKnob Tryz.prog.godebug = none := by kernel_rfl
theorem stops : Tryz.pinned.checked.prog.stops = ["fmt.Sprintf", "fmt.errorf"] := by kernel_rfl
theorem stopKnobs : Tryz.pinned.checked.prog.stopKnobs = [] := by kernel_rfl
theorem quiet (os : Os) : Stop.quiet Tryz.pinned.checked.prog os := by
  intro k hk
  rw [stopKnobs] at hk
  cases hk
theorem rowed : mapsRowed Tryz.pinned.checked.prog = true := by kernel_rfl
theorem word : Tryz.pinned.checked.prog.envWorded = true := by kernel_rfl
theorem main : Tryz.pinned.checked.prog.mainIs = some (true, "76223f9938ea31f47b5c0311d17a61b8ad55bdc1aabde09ddada0c5eb8648c3d".toList) := by kernel_rfl
theorem looks : true = Tryz.pinned.checked.prog.looks [] := by kernel_rfl
theorem mayEnter : Tryz.pinned.checked.prog.mayEnter = true := by kernel_rfl
theorem heard : Tryz.pinned.checked.prog.stopsHeard = true := by kernel_rfl
theorem plainKeys : Rows.fnQuoteRegexpRow.plainKeys = Tryz.pinned.checked.prog.plainKeys := by kernel_rfl
theorem lifted : Rows.fnQuoteRegexpRow.lifted = Tryz.pinned.checked.prog.liftsFinal := by kernel_rfl
theorem make : Tryz.pinned.checked.prog.make = some Rows.fnQuoteRegexpRow.make := by kernel_rfl
end Go.Proofs.YtpfgmiocdgfniaaGreatFmt.card
