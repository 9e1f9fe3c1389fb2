/- The package-level variables that contracts read: number, and what is known of their cells (seat's own; none by default). -/
import GoSem.Claim
import Derived.Lib.LaidTab
import Derived.Lib.ItoaNum
namespace Go.Proofs.YtcgmheacdgcgiaaDoor
set_option linter.all false
def globTabs : List (Nat × (Array Value → Prop)) := [
  (3, fun cs => cs = (Lib.pow10Tab.map fun z => Value.int .u64 z).toArray)
  , (0, fun cs => ∃ m, cs[0]? = some (.int .i64 m))
  ]
end Go.Proofs.YtcgmheacdgcgiaaDoor
