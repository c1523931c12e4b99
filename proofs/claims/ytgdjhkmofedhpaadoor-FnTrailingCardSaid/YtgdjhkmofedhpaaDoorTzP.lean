/-
  Plain: how many bits of a number are 0 below the lowest that is 1.
-/
import Derived.Test.YtgdjhkmofedhpaaDoorLwBase
import Derived.Lib.TrailingZeros
namespace Go.Proofs.YtgdjhkmofedhpaaDoor
open Go.RowKit

/-- Of the bits of N, t are 0 below the lowest that is 1. -/
def IsTz (N t : Nat) : Prop := ∃ o, N = 2 ^ t * o ∧ o % 2 = 1
theorem IsTz.ex : ∀ N, N ≠ 0 → ∃ t, IsTz N t := by
  intro N
  induction N using Nat.strongRecOn with
  | ind N ih =>
    intro h0
    by_cases h : N % 2 = 1
    · exact ⟨0, N, by rw [Nat.pow_zero, Nat.one_mul], h⟩
    · obtain ⟨t, o, h1, h2⟩ := ih (N / 2) (by omega) (by omega)
      refine ⟨t + 1, o, ?_, h2⟩
      have : N = 2 * (N / 2) := by omega
      rw [this, h1, Nat.pow_succ]
      grind
theorem IsTz.pos {N t : Nat} (h : IsTz N t) : N ≠ 0 := by
  obtain ⟨o, h1, h2⟩ := h
  have h3 : 0 < 2 ^ t := Nat.pow_pos (by omega)
  have h4 : 0 < o := by omega
  have := Nat.mul_pos h3 h4
  omega
theorem IsTz.lt {N t n : Nat} (h : IsTz N t) (hN : N < 2 ^ n) : t < n := by
  obtain ⟨o, h1, h2⟩ := h
  refine (Nat.pow_lt_pow_iff_right (a := 2) (by omega)).1 (Nat.lt_of_le_of_lt ?_ hN)
  rw [h1]
  exact Nat.le_mul_of_pos_right _ (by omega)
theorem IsTz.odd {N t : Nat} (h : IsTz N t) : N / 2 ^ t % 2 = 1 := by
  obtain ⟨o, h1, h2⟩ := h
  rw [h1, Nat.mul_div_cancel_left _ (Nat.pow_pos (by omega))]
  exact h2
theorem IsTz.next {N t k : Nat} (h : IsTz N t) (hk : k < t) : N / 2 ^ k % 2 = 0 := by
  obtain ⟨o, h1, h2⟩ := h
  obtain ⟨d, rfl⟩ : ∃ d, t = k + (d + 1) := ⟨t - k - 1, by omega⟩
  rw [h1, Nat.pow_add, Nat.mul_assoc, Nat.mul_div_cancel_left _ (Nat.pow_pos (by omega)), Nat.pow_succ, Nat.mul_assoc, Nat.mul_comm 2 o, ← Nat.mul_assoc]
  exact Nat.mul_mod_left _ _
theorem IsTz.unique {N t s : Nat} (h : IsTz N t) (k : IsTz N s) : t = s := by
  rcases Nat.lt_trichotomy t s with h1 | h1 | h1
  · have := k.next h1
    rw [h.odd] at this
    cases this
  · exact h1
  · have := h.next h1
    rw [k.odd] at this
    cases this
theorem IsTz.byte {N t : Nat} (h : IsTz N t) : IsTz (N * 256) (t + 8) := by
  obtain ⟨o, h1, h2⟩ := h
  refine ⟨o, ?_, h2⟩
  rw [h1, Nat.pow_add]
  grind
theorem IsTz.limb {x : Nat} (h0 : x ≠ 0) (h : x < 18446744073709551616) : IsTz x (Lib.ctz 64 x) ∧ Lib.ctz 64 x < 64 := by
  obtain ⟨m, hm, hk⟩ := Lib.ctzFrom_spec 64 x (by omega) (by omega)
  have e : Lib.ctz 64 x = Lib.ctzFrom 64 x := by simp [Lib.ctz, h0]
  rw [e]
  exact ⟨⟨2 * m + 1, by grind, by omega⟩, hk⟩
/-- Limbs of zeros, and one that is not 0. -/
theorem IsTz.at {X j c : Nat} (h0 : X % W64 ^ j = 0) (h : IsTz (dg W64 X j) c) (hc : c < 64) : IsTz X (64 * j + c) := by
  obtain ⟨o, h1, h2⟩ := h
  have e1 : X = 2 ^ (64 * j) * (X / W64 ^ j) := by
    have := Nat.div_add_mod X (W64 ^ j)
    rw [h0, Nat.add_zero, powW] at this
    rw [powW]; exact this.symm
  have e2 : X / W64 ^ j = W64 * (X / W64 ^ j / W64) + dg W64 X j := (Nat.div_add_mod (X / W64 ^ j) W64).symm
  refine ⟨2 ^ (64 - c) * (X / W64 ^ j / W64) + o, ?_, ?_⟩
  · generalize X / W64 ^ j / W64 = r at *
    have hw : W64 = 2 ^ c * 2 ^ (64 - c) := by rw [← Nat.pow_add, show c + (64 - c) = 64 by omega]; rfl
    rw [e1, e2, h1, hw, Nat.pow_add]
    grind
  · obtain ⟨d, hd⟩ : ∃ d, 64 - c = d + 1 := ⟨63 - c, by omega⟩
    rw [hd, Nat.pow_succ, Nat.mul_assoc]
    have : 2 ^ d * (2 * (X / W64 ^ j / W64)) = 2 * (2 ^ d * (X / W64 ^ j / W64)) := by grind
    omega
theorem zero_next {X j : Nat} (h0 : X % W64 ^ j = 0) (h : dg W64 X j = 0) : X % W64 ^ (j + 1) = 0 := by
  rw [Nat.mod_pow_succ, h0]
  have : X / W64 ^ j % W64 = 0 := h
  rw [this, Nat.mul_zero]
end Go.Proofs.YtgdjhkmofedhpaaDoor
