/-
  Contracts: impl.Mul, Square, Mod, Exp, ExpSelf, ExpShort, ModulusProduct.
-/
import Derived.Test.YtpojonfopoobpaaGreatImpB
import Derived.Test.YtpojonfopoobpaaGreatMulE
import Derived.Test.YtpojonfopoobpaaGreatExpS
import Derived.Test.YtpojonfopoobpaaGreatPrdC
import Derived.Test.YtpojonfopoobpaaGreatGcdC
namespace Go.Proofs.YtpojonfopoobpaaGreat
open Go.RowKit

theorem iodd_yes {a : Option Addr} {n c N : Nat} {w : World} (hn : n ≤ 100000) (h : Bs w a n c N) (h0 : N % 2 = 1) : Calls Tryz.prog 14 #[.slice a n c] w fun e w' => e = .returned (.bool true) ∧ Upd0 w w' :=
  (ioddT_bs (by omega) h).mono fun _ _ ⟨h1, h2⟩ => ⟨by rw [h1, decide_eq_true h0], by rw [h2]; exact .refl _ _⟩
theorem iodd_no {a : Option Addr} {n c N : Nat} {w : World} (hn : n ≤ 100000) (h : Bs w a n c N) (h0 : ¬ N % 2 = 1) : Calls Tryz.prog 14 #[.slice a n c] w fun e w' => e = .returned (.bool false) ∧ Upd0 w w' :=
  (ioddT_bs (by omega) h).mono fun _ _ ⟨h1, h2⟩ => ⟨by rw [h1, decide_eq_false h0], by rw [h2]; exact .refl _ _⟩
end Go.Proofs.YtpojonfopoobpaaGreat
