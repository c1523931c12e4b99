/-
  Contract: ExpShortVarTime.
-/
import Derived.Test.YtiiihhohfgepfaaMulI
namespace Go.Proofs.Ytiiihhohfgepfaa
open Go.RowKit

end Go.Proofs.Ytiiihhohfgepfaa
