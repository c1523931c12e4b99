/-
  Contract: spec.step. (Written ahead of its seat; not built yet.)
-/
import Derived.Test.YtpojonfopoobpaaRunW
namespace Go.Proofs.Ytpojonfopoobpaa
open Go.RowKit

end Go.Proofs.Ytpojonfopoobpaa
