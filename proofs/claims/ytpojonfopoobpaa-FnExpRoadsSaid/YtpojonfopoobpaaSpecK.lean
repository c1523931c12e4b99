/-
  Contracts of the reference: power.
-/
import Derived.Test.YtpojonfopoobpaaSpecJ
import Derived.Test.YtpojonfopoobpaaNumB
namespace Go.Proofs.Ytpojonfopoobpaa
open Go.RowKit

theorem half_bit' (R t : Nat) : R / 2 ^ t = 2 * (R / 2 ^ (t + 1)) + R / 2 ^ t % 2 := by
  rw [Nat.pow_succ, ← Nat.div_div_eq_div_mul]; omega
theorem sq_pow (X E M : Nat) : X ^ E % M * (X ^ E % M) % M = X ^ (2 * E) % M := by
  rw [← Nat.mul_mod, ← Nat.pow_add, Nat.two_mul]
theorem mul_pow (X E M : Nat) : X ^ E % M * X % M = X ^ (E + 1) % M := by
  rw [Nat.mod_mul_mod, Nat.pow_succ]
/-- The exponent behind t bits of the byte d. -/
def exN (E d t : Nat) : Nat := E * 2 ^ t + d / 2 ^ (8 - t)
theorem exN_zero {E d : Nat} (hd : d < 256) : exN E d 0 = E := by unfold exN; rw [Nat.pow_zero, Nat.mul_one, Nat.div_eq_of_lt (by exact hd), Nat.add_zero]
theorem exN_eight (E d : Nat) : exN E d 8 = E * 256 + d := by unfold exN; rw [Nat.sub_self, Nat.pow_zero, Nat.div_one]
theorem exN_step (E d : Nat) {t : Nat} (ht : t < 8) : exN E d (t + 1) = 2 * exN E d t + d / 2 ^ (7 - t) % 2 := by
  unfold exN
  have h := half_bit' d (7 - t)
  rw [show 7 - t + 1 = 8 - t by omega] at h
  rw [show 8 - (t + 1) = 7 - t by omega, Nat.pow_succ]
  generalize d / 2 ^ (7 - t) = a at *
  generalize d / 2 ^ (8 - t) = b at *
  generalize 2 ^ t = q
  have : E * (q * 2) = 2 * (E * q) := by rw [← Nat.mul_assoc]; omega
  omega
/-- A number of the reference in slot s. -/
def NumIn (w : World) (N : Nat) (s : Value) : Prop := ∃ a c, s = .slice a (nd N) c ∧ Sl .i64 w a (nd N) c (dg 65536 N)
/-- At the head of the outer loop of power. -/
def PwOut (w : World) (X M ne : Nat) (f : Nat → Nat) (k : Nat) (o i : Value) (wr : World) : Prop :=
  ∃ j R, j + k = ne ∧ i = .int .i64 (j : Nat) ∧ R = X ^ be f j % M ∧ NumIn wr R o ∧ Upd0 w wr
/-- At the head of the inner loop. -/
def PwIn (w : World) (X M E d : Nat) (k : Nat) (o b : Value) (wr : World) : Prop :=
  ∃ t R q, t + k = 8 ∧ b = .int .i64 (q : Nat) ∧ q = 128 / 2 ^ t ∧ R = X ^ exN E d t % M ∧ NumIn wr R o ∧ Upd0 w wr
theorem bit_val {t : Nat} (ht : t < 8) : 128 / 2 ^ t = 2 ^ (7 - t) := by
  rcases (show t = 0 ∨ t = 1 ∨ t = 2 ∨ t = 3 ∨ t = 4 ∨ t = 5 ∨ t = 6 ∨ t = 7 by omega) with h | h | h | h | h | h | h | h <;> subst h <;> rfl
theorem bit_no {D z : Nat} (h : z = D % 2) (hz : z = 0) : ((D : Int) % 2 == 1) = false ∧ ((D : Int).tmod 2 == 1) = false := by
  have h1 : (D : Int) % 2 = 0 := by omega
  rw [Int.tmod_eq_emod_of_nonneg (by omega), h1]
  exact ⟨rfl, rfl⟩
theorem bit_yes {D z : Nat} (h : z = D % 2) (hz : z = 1) : ((D : Int) % 2 == 1) = true ∧ ((D : Int).tmod 2 == 1) = true := by
  have h1 : (D : Int) % 2 = 1 := by omega
  rw [Int.tmod_eq_emod_of_nonneg (by omega), h1]
  exact ⟨rfl, rfl⟩
theorem wrap_div {d q D : Nat} (hD : D = d / q) (hd : d < 256) : RowKit.wrap64 ((d : Int) / (q : Int)) = (D : Int) := by
  have h1 : (d : Int) / (q : Int) = (D : Int) := by rw [hD]; simp
  have h2 : D ≤ d := by rw [hD]; exact Nat.div_le_self _ _
  rw [h1]
  exact IntWalk.wrap64_in _ (by omega)
end Go.Proofs.Ytpojonfopoobpaa
