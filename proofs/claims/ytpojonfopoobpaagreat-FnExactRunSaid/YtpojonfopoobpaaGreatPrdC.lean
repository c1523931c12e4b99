/-
  Contracts: NewModulusProduct, impl.ModulusProduct.
-/
import Derived.Test.YtpojonfopoobpaaGreatMulI
import Derived.Test.YtpojonfopoobpaaGreatPrd
import Derived.Deep.DeepCutAuto
import Derived.Deep.CutBlock
import Derived.Deep.RegionHeld3
namespace Go.Proofs.YtpojonfopoobpaaGreat
open Go.RowKit

theorem blen_mul_le (A B : Nat) : blen (A * B) ≤ blen A + blen B := by
  rw [blen_le_iff, Nat.pow_add]
  exact Nat.mul_lt_mul'' (lt_two_pow_blen A) (lt_two_pow_blen B)
theorem nb_mul_le (A B : Nat) : nb (A * B) ≤ nb A + nb B := by
  rw [nb_le_iff, Nat.pow_add]
  exact Nat.mul_lt_mul'' (lt_pow_nb A) (lt_pow_nb B)
theorem nl_mul_lt {A B : Nat} : A * B < W64 ^ (nl A + nl B) := by
  rw [Nat.pow_add]
  exact Nat.mul_lt_mul'' (lt_pow_nl A) (lt_pow_nl B)
/-- The number n behind j rows. -/
def PrAt (w : World) (pn bn cn N P : Nat) (wx : World) : Prop := NatAt wx pn bn cn N P ∧ Upd (fun k => k = bn) w wx
end Go.Proofs.YtpojonfopoobpaaGreat
