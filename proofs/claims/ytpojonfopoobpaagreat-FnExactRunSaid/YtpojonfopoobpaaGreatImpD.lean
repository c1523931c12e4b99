/-
  Contracts: impl.Exp, ExpSelf.
-/
import Derived.Test.YtpojonfopoobpaaGreatImpC
import Derived.Test.YtpojonfopoobpaaGreatExpI
namespace Go.Proofs.YtpojonfopoobpaaGreat
open Go.RowKit

end Go.Proofs.YtpojonfopoobpaaGreat
