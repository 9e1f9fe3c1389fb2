/- The package-level variables that contracts read: number, and what is known of their cells (seat's own; none by default). -/
import GoSem.Claim
import Derived.Lib.LaidTab
import Derived.Lib.ItoaNum
namespace Go.Proofs.YtedcagoilpaafaaDoor
set_option linter.all false
def globTabs : List (Nat × (Array Value → Prop)) := [
  ]
end Go.Proofs.YtedcagoilpaafaaDoor
