/-
  Plain numbers: the steps of a division digit by digit. No program in sight.
-/
import Derived.Test.YtmbghmjllipbhaaPlain
namespace Go.Proofs.Ytmbghmjllipbhaa

/-- Two digits above: the number without what is below them. -/
theorem two_digits {b R m : Nat} (hb : 0 < b) (h : R < b ^ (m + 2)) : R / b ^ m = dg b R (m + 1) * b + dg b R m := by
  rw [div_split hb R m, div_split hb R (m + 1)]
  rw [Nat.div_eq_of_lt (show R < b ^ (m + 1 + 1) from h), Nat.zero_mul, Nat.zero_add]
/-- What is tried first is not too small. -/
theorem q_est {b R V n t : Nat} (hb : 0 < b) (hV : V < b ^ (n + 1)) (ht : dg b V n ≠ 0) (hR : R < V * b ^ (t + 1)) :
    R / (V * b ^ t) ≤ (dg b R (t + (n + 1)) * b + dg b R (t + n)) / dg b V n := by
  have h1 : R < b ^ (t + n + 2) := by
    refine Nat.lt_of_lt_of_le hR ?_
    rw [show t + n + 2 = (n + 1) + (t + 1) by omega, Nat.pow_add b (n + 1) (t + 1)]
    exact Nat.mul_le_mul_right _ (Nat.le_of_lt hV)
  have h2 := two_digits hb h1
  rw [show t + n + 1 = t + (n + 1) by omega] at h2
  rw [← h2, Nat.div_div_eq_div_mul]
  have h3 : b ^ (t + n) * dg b V n ≤ V * b ^ t := by
    have h4 := mod_succ b V n
    rw [Nat.mod_eq_of_lt hV] at h4
    rw [Nat.pow_add, Nat.mul_assoc, Nat.mul_comm V]
    exact Nat.mul_le_mul_left _ (Nat.le_trans (Nat.le_add_left _ _) (Nat.le_of_eq h4.symm))
  exact Nat.div_le_div_left h3 (Nat.mul_pos (Nat.pow_pos hb) (by omega))
theorem q_lt {b R V t : Nat} (hR : R < V * b ^ (t + 1)) : R / (V * b ^ t) < b := by
  rcases Nat.eq_zero_or_pos (V * b ^ t) with h | h
  · rw [Nat.pow_succ, ← Nat.mul_assoc, h, Nat.zero_mul] at hR; omega
  · rw [Nat.div_lt_iff_lt_mul h, Nat.mul_comm b, Nat.mul_assoc, ← Nat.pow_succ]; exact hR
/-- A digit of the quotient, by what is left above. -/
theorem q_digit (b U V t : Nat) : dg b (U / V) t = (U % (V * b ^ (t + 1))) / (V * b ^ t) := by
  unfold dg
  rw [Nat.div_div_eq_div_mul, Nat.pow_succ, ← Nat.mul_assoc, Nat.mod_mul_right_div_self]
theorem q_next (b U V t : Nat) : U % (V * b ^ (t + 1)) % (V * b ^ t) = U % (V * b ^ t) := by
  rw [Nat.pow_succ, ← Nat.mul_assoc, Nat.mod_mul_right_mod]
theorem q_rest {R D x : Nat} (hx : x = R / D) : R - x * D = R % D := by
  have := Nat.div_add_mod R D
  rw [hx, Nat.mul_comm]; omega
/-- Where the tried digit fits. -/
theorem q_fits {R D x : Nat} (hD : 0 < D) (h1 : R / D ≤ x) (h2 : x * D ≤ R) : x = R / D := by
  have := (Nat.le_div_iff_mul_le hD).2 h2
  omega

/- Taking away: one step. Z: the digits that are done; o: what is owed. -/
theorem take_step {b Z U V q o x o' m n : Nat} (hb : 0 < b) (hZ : Z < b ^ (m + n)) (hinv : Z + q * (V % b ^ n) * b ^ m = U % b ^ (m + n) + o * b ^ (m + n))
    (hx : x < b) (hs : x + q * dg b V n + o = dg b U (m + n) + o' * b) :
    Z + x * b ^ (m + n) < b ^ (m + (n + 1)) ∧ (Z + x * b ^ (m + n)) + q * (V % b ^ (n + 1)) * b ^ m = U % b ^ (m + (n + 1)) + o' * b ^ (m + (n + 1)) ∧
    (∀ j, j < m + n → dg b (Z + x * b ^ (m + n)) j = dg b Z j) ∧ dg b (Z + x * b ^ (m + n)) (m + n) = x := by
  have hp : 0 < b ^ (m + n) := Nat.pow_pos hb
  have e1 : b ^ (m + (n + 1)) = b ^ (m + n) * b := by rw [← Nat.add_assoc, Nat.pow_succ]
  refine ⟨?_, ?_, fun j hj => ?_, ?_⟩
  · rw [e1]
    have : b ^ (m + n) * (x + 1) ≤ b ^ (m + n) * b := Nat.mul_le_mul_left _ hx
    rw [Nat.mul_add, Nat.mul_one] at this
    rw [Nat.mul_comm x]; omega
  · rw [mod_succ b V n, ← Nat.add_assoc m n 1, mod_succ b U (m + n), Nat.mul_add, Nat.add_mul]
    have h1 : q * (b ^ n * dg b V n) * b ^ m = q * dg b V n * b ^ (m + n) := by
      rw [Nat.pow_add, Nat.mul_comm (b ^ m), ← Nat.mul_assoc q, Nat.mul_right_comm q, Nat.mul_assoc]
    have h2 : b ^ (m + n) * dg b U (m + n) = dg b U (m + n) * b ^ (m + n) := Nat.mul_comm _ _
    have h3 : o' * b ^ (m + n + 1) = o' * b * b ^ (m + n) := by rw [Nat.pow_succ, Nat.mul_comm (b ^ (m + n)), Nat.mul_assoc]
    rw [h1, h2, h3]
    have h4 : (x + q * dg b V n + o) * b ^ (m + n) = (dg b U (m + n) + o' * b) * b ^ (m + n) := by rw [hs]
    rw [Nat.add_mul, Nat.add_mul, Nat.add_mul] at h4
    omega
  · rw [← dg_mod_lt hb hj, Nat.add_mul_mod_self_right, Nat.mod_eq_of_lt hZ]
  · unfold dg
    rw [Nat.add_mul_div_right _ _ hp, Nat.div_eq_of_lt hZ, Nat.zero_add, Nat.mod_eq_of_lt hx]
/- Putting back: one step. c: what is carried. -/
theorem put_step {b Z U V c T m n : Nat} (hb : 0 < b) (hZ : Z < b ^ (m + n)) (hinv : Z + c * b ^ (m + n) = U % b ^ (m + n) + V % b ^ n * b ^ m)
    (hT : T = c + dg b U (m + n) + dg b V n) :
    Z + T % b * b ^ (m + n) < b ^ (m + (n + 1)) ∧ (Z + T % b * b ^ (m + n)) + T / b * b ^ (m + (n + 1)) = U % b ^ (m + (n + 1)) + V % b ^ (n + 1) * b ^ m ∧
    (∀ j, j < m + n → dg b (Z + T % b * b ^ (m + n)) j = dg b Z j) ∧ dg b (Z + T % b * b ^ (m + n)) (m + n) = T % b := by
  have hp : 0 < b ^ (m + n) := Nat.pow_pos hb
  have hx := Nat.mod_lt T hb
  have e1 : b ^ (m + (n + 1)) = b ^ (m + n) * b := by rw [← Nat.add_assoc, Nat.pow_succ]
  refine ⟨?_, ?_, fun j hj => ?_, ?_⟩
  · rw [e1]
    have : b ^ (m + n) * (T % b + 1) ≤ b ^ (m + n) * b := Nat.mul_le_mul_left _ hx
    rw [Nat.mul_add, Nat.mul_one] at this
    rw [Nat.mul_comm (T % b)]; omega
  · rw [mod_succ b V n, ← Nat.add_assoc m n 1, mod_succ b U (m + n), Nat.add_mul]
    have h1 : b ^ n * dg b V n * b ^ m = dg b V n * b ^ (m + n) := by
      rw [Nat.pow_add, Nat.mul_comm (b ^ n), Nat.mul_assoc, Nat.mul_comm (b ^ n)]
    have h2 : b ^ (m + n) * dg b U (m + n) = dg b U (m + n) * b ^ (m + n) := Nat.mul_comm _ _
    have h3 : T / b * b ^ (m + n + 1) = b * (T / b) * b ^ (m + n) := by rw [Nat.pow_succ, Nat.mul_comm (b ^ (m + n)), ← Nat.mul_assoc, Nat.mul_comm b]
    rw [h1, h2, h3]
    have h4 := Nat.div_add_mod T b
    have h5 : (b * (T / b) + T % b) * b ^ (m + n) = (c + dg b U (m + n) + dg b V n) * b ^ (m + n) := by rw [h4, hT]
    rw [Nat.add_mul, Nat.add_mul, Nat.add_mul] at h5
    omega
  · rw [← dg_mod_lt hb hj, Nat.add_mul_mod_self_right, Nat.mod_eq_of_lt hZ]
  · unfold dg
    rw [Nat.add_mul_div_right _ _ hp, Nat.div_eq_of_lt hZ, Nat.zero_add, Nat.mod_eq_of_lt hx]
end Go.Proofs.Ytmbghmjllipbhaa
