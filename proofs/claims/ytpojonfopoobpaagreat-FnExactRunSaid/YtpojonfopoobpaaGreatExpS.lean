/-
  Contract: ExpShortVarTime.
-/
import Derived.Test.YtpojonfopoobpaaGreatMulI
namespace Go.Proofs.YtpojonfopoobpaaGreat
open Go.RowKit

end Go.Proofs.YtpojonfopoobpaaGreat
