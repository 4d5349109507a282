/-
  The contracts of the thin package's functions that this seat reaches: what each hands back, and that it changes nothing that was there.
  Conditions: only those that a theorem writes out (a divisor that is not 0).
-/
import Derived.Test.YtgdpdbboccoljaaDoorLibThree
namespace Go.Proofs.YtgdpdbboccoljaaDoor
open Go.RowKit
set_option linter.unusedSimpArgs false
set_option linter.unusedVariables false
set_option maxHeartbeats 2000000

end Go.Proofs.YtgdpdbboccoljaaDoor
