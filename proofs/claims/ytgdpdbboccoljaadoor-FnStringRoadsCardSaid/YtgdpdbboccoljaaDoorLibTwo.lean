/-
  The contracts of Point.Mod and Rectangle.Inset, if this seat reaches them.
  Conditions: only those that a theorem writes out (a divisor that is not 0).
-/
import Derived.Test.YtgdpdbboccoljaaDoorLib
namespace Go.Proofs.YtgdpdbboccoljaaDoor
open Go.RowKit
set_option linter.unusedSimpArgs false
set_option linter.unusedVariables false
set_option maxHeartbeats 2000000

end Go.Proofs.YtgdpdbboccoljaaDoor
