/-
  Contracts: impl.SetBytes, Add, Sub, Double, Cancel, Equal, IsZero, IsOne, IsOdd; Modulus.Nat, impl.ModulusBytes.
-/
import Derived.Test.YtpojonfopoobpaaGreatIn
import Derived.Test.YtpojonfopoobpaaGreatSpecJ
namespace Go.Proofs.YtpojonfopoobpaaGreat
open Go.RowKit

end Go.Proofs.YtpojonfopoobpaaGreat
