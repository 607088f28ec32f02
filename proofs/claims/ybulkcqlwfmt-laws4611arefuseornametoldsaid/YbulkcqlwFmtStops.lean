/-
  THE STOPS OF THE PROGRAM: closed facts.
-/
import Derived.Test.YbulkcqlwFmtLaid
import Derived.Stop.JoinedTold
namespace Go.Proofs.YbulkcqlwFmt
open Go.Extern.Stop Go.Stop Go.Extern
theorem stopsAre : Ybaf.pinned.checked.prog.stops = ["fmt.errorf", "fmt.Sprintf"] := by kernel_rfl
theorem knobsAre : Ybaf.pinned.checked.prog.stopKnobs = [] := by kernel_rfl
theorem quietIs (os : Os) : Stop.quiet Ybaf.pinned.checked.prog os := by
  intro k hk
  rw [knobsAre] at hk
  cases hk
end Go.Proofs.YbulkcqlwFmt
