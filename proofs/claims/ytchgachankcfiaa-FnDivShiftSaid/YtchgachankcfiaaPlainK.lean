/-
  Plain numbers: a digit of a quotient, found by trying (the way of math/bits.Div). No program in sight.
-/
import Derived.Test.YtchgachankcfiaaPlain
namespace Go.Proofs.Ytchgachankcfiaa
/- A digit of the quotient of two digits of 32 bits by one number of two such digits. -/
def kq (Y u u1 : Nat) : Nat := (u * 4294967296 + u1) / Y
def kr (Y u u1 : Nat) : Nat := (u * 4294967296 + u1) % Y
theorem kq_lt {Y u u1 : Nat} (hu : u < Y) (h1 : u1 < 4294967296) : kq Y u u1 < 4294967296 := by
  unfold kq
  rw [Nat.div_lt_iff_lt_mul (by omega)]
  have : (u + 1) * 4294967296 ≤ Y * 4294967296 := Nat.mul_le_mul_right _ hu
  omega
theorem kq_le_iff {Y u u1 v1 v0 q r : Nat} (hY : Y = v1 * 4294967296 + v0) (hp : 0 < Y) (hq : q * v1 + r = u) : q ≤ kq Y u u1 ↔ q * v0 ≤ 4294967296 * r + u1 := by
  unfold kq
  rw [Nat.le_div_iff_mul_le hp, hY, Nat.mul_add, ← Nat.mul_assoc, ← hq]
  generalize q * v1 = a
  generalize q * v0 = c
  omega
theorem k_start {Y u u1 v1 v0 : Nat} (hY : Y = v1 * 4294967296 + v0) (h1 : 2147483648 ≤ v1) (h0 : v0 < 4294967296) (hu : u < Y) (hu1 : u1 < 4294967296) :
    kq Y u u1 ≤ u / v1 ∧ u / v1 ≤ 4294967297 := by
  have hp : 0 < Y := by omega
  have hdm := Nat.div_add_mod u v1
  have hm := Nat.mod_lt u (show 0 < v1 by omega)
  have e : u / v1 * v1 + u % v1 = u := by rw [Nat.mul_comm]; exact hdm
  constructor
  · -- otherwise (u / v1 + 1) would fit
    rcases Nat.lt_or_ge (u / v1) (kq Y u u1) with h | h
    · exfalso
      have h2 : (u / v1 + 1) * Y ≤ u * 4294967296 + u1 := by
        have h3 : u / v1 + 1 ≤ (u * 4294967296 + u1) / Y := h
        exact (Nat.le_div_iff_mul_le hp).1 h3
      have h4 : (u / v1 + 1) * Y = (u / v1 * v1 + v1) * 4294967296 + (u / v1 + 1) * v0 := by
        rw [hY, Nat.mul_add, ← Nat.mul_assoc, Nat.add_mul (u / v1) 1 v1, Nat.one_mul]
      omega
    · exact h
  · have h5 : u / v1 < 4294967298 := by
      rw [Nat.div_lt_iff_lt_mul (by omega)]
      omega
    omega
theorem k_again {Y u u1 v1 v0 q r : Nat} (hY : Y = v1 * 4294967296 + v0) (hp : 0 < Y) (hu : u < Y) (hu1 : u1 < 4294967296) (hq : q * v1 + r = u) (hk : kq Y u u1 ≤ q)
    (ht : 4294967296 ≤ q ∨ 4294967296 * r + u1 < q * v0) : 1 ≤ q ∧ kq Y u u1 ≤ q - 1 ∧ (q - 1) * v1 + (r + v1) = u := by
  have h1 := kq_lt hu hu1
  have h2 := kq_le_iff (u1 := u1) hY hp hq
  have h3 : kq Y u u1 < q := by
    rcases ht with h | h
    · omega
    · have : ¬ q ≤ kq Y u u1 := fun h' => by have := h2.1 h'; omega
      omega
  refine ⟨by omega, by omega, ?_⟩
  obtain ⟨p, rfl⟩ : ∃ p, q = p + 1 := ⟨q - 1, by omega⟩
  rw [Nat.add_sub_cancel, ← hq, Nat.add_mul]; omega
theorem k_done {Y u u1 v1 v0 q r : Nat} (hY : Y = v1 * 4294967296 + v0) (hp : 0 < Y) (hq : q * v1 + r = u) (hk : kq Y u u1 ≤ q)
    (ht : q * v0 ≤ 4294967296 * r + u1) : q = kq Y u u1 := by
  have h2 := kq_le_iff (u1 := u1) hY hp hq
  have := h2.2 ht
  omega
theorem k_break {Y u u1 v1 v0 q r : Nat} (hY : Y = v1 * 4294967296 + v0) (h0 : v0 < 4294967296) (hp : 0 < Y) (hq : q * v1 + r = u) (hk : kq Y u u1 ≤ q) (hb : q ≤ 4294967296) (hr : 4294967296 ≤ r) : q = kq Y u u1 := by
  refine k_done hY hp hq hk ?_
  have h1 : q * v0 ≤ 4294967296 * 4294967296 := Nat.mul_le_mul hb (by omega)
  have h2 : 4294967296 * 4294967296 ≤ 4294967296 * r := Nat.mul_le_mul_left _ hr
  omega
theorem k_rest {Y u u1 : Nat} (hp : 0 < Y) (hY : Y ≤ 18446744073709551616) : ((u * 4294967296 % 18446744073709551616 + u1) % 18446744073709551616 + (18446744073709551616 - kq Y u u1 * Y % 18446744073709551616 % 18446744073709551616)) % 18446744073709551616 = kr Y u u1 := by
  have h1 := Nat.div_add_mod (u * 4294967296 + u1) Y
  have h2 := Nat.mod_lt (u * 4294967296 + u1) hp
  have e1 : kq Y u u1 = (u * 4294967296 + u1) / Y := rfl
  have e2 : kr Y u u1 = (u * 4294967296 + u1) % Y := rfl
  rw [← e1, ← e2] at h1
  rw [← e2] at h2
  obtain ⟨C, hC⟩ : ∃ C, C = kq Y u u1 * Y := ⟨_, rfl⟩
  rw [Nat.mul_comm, ← hC] at h1
  rw [← hC]
  omega
/-- The whole division. -/
theorem k_all {Y u u1 u0 : Nat} (hp : 0 < Y) : (u * 18446744073709551616 + (u1 * 4294967296 + u0)) / Y = kq Y u u1 * 4294967296 + kq Y (kr Y u u1) u0 ∧ (u * 18446744073709551616 + (u1 * 4294967296 + u0)) % Y = kr Y (kr Y u u1) u0 := by
  have h1 := Nat.div_add_mod (u * 4294967296 + u1) Y
  have h2 := Nat.div_add_mod ((u * 4294967296 + u1) % Y * 4294967296 + u0) Y
  have h3 := Nat.mod_lt ((u * 4294967296 + u1) % Y * 4294967296 + u0) hp
  have e1 : kq Y u u1 = (u * 4294967296 + u1) / Y := rfl
  have e2 : kr Y u u1 = (u * 4294967296 + u1) % Y := rfl
  rw [← e1, ← e2] at h1
  rw [← e2] at h2 h3
  have e3 : kq Y (kr Y u u1) u0 = (kr Y u u1 * 4294967296 + u0) / Y := rfl
  have e4 : kr Y (kr Y u u1) u0 = (kr Y u u1 * 4294967296 + u0) % Y := rfl
  rw [← e3, ← e4] at h2
  rw [← e4] at h3
  have e : u * 18446744073709551616 + (u1 * 4294967296 + u0) = Y * (kq Y u u1 * 4294967296 + kq Y (kr Y u u1) u0) + kr Y (kr Y u u1) u0 := by
    rw [Nat.mul_add, ← Nat.mul_assoc]
    obtain ⟨a, ha⟩ : ∃ a, a = Y * kq Y u u1 := ⟨_, rfl⟩
    obtain ⟨c, hc⟩ : ∃ c, c = Y * kq Y (kr Y u u1) u0 := ⟨_, rfl⟩
    rw [← ha] at h1 ⊢
    rw [← hc] at h2 ⊢
    omega
  rw [e, Nat.mul_add_div hp, Nat.mul_add_mod, Nat.div_eq_of_lt h3, Nat.mod_eq_of_lt h3, Nat.add_zero]
  exact ⟨rfl, rfl⟩

/-- Both numbers shifted so that the divisor has its highest bit. -/
theorem div_prep {hi lo y : Nat} (hy : y < 18446744073709551616) (hlo : lo < 18446744073709551616) (h : hi < y) :
    ∃ Y H ul : Nat, Y = y * 2 ^ (64 - blen y) ∧ 9223372036854775808 ≤ Y ∧ Y < 18446744073709551616 ∧ H = hi * 2 ^ (64 - blen y) ∧ H + lo / 2 ^ (64 - (64 - blen y)) < Y ∧ lo / 2 ^ (64 - (64 - blen y)) < 2 ^ (64 - blen y) ∧
      ul = lo * 2 ^ (64 - blen y) % 18446744073709551616 ∧ (hi * 18446744073709551616 + lo) * 2 ^ (64 - blen y) = (H + lo / 2 ^ (64 - (64 - blen y))) * 18446744073709551616 + ul := by
  have hb : blen y ≤ 64 := (blen_le_iff 64 y).2 hy
  have hb0 : 0 < blen y := blen_pos (by omega)
  have h1 := lt_two_pow_blen y
  have h2 := two_pow_le_of_blen (n := y) (k := blen y - 1) (by omega)
  obtain ⟨s, hs⟩ : ∃ s, s = 64 - blen y := ⟨_, rfl⟩
  rw [← hs]
  have hp : 0 < 2 ^ s := Nat.pow_pos (by omega)
  have hW : (18446744073709551616 : Nat) = 2 ^ (64 - s) * 2 ^ s := by rw [← Nat.pow_add, show 64 - s + s = 64 by omega]
  have hW2 : (9223372036854775808 : Nat) = 2 ^ (blen y - 1) * 2 ^ s := by rw [← Nat.pow_add, show blen y - 1 + s = 63 by omega]
  rw [show blen y = 64 - s by omega] at h1
  have hp2 : 0 < 2 ^ (64 - s) := Nat.pow_pos (by omega)
  have hlow : lo / 2 ^ (64 - s) < 2 ^ s := by
    rw [Nat.div_lt_iff_lt_mul hp2, Nat.mul_comm, ← hW]; exact hlo
  refine ⟨_, _, _, rfl, ?_, ?_, rfl, ?_, hlow, rfl, ?_⟩
  · rw [hW2]; exact Nat.mul_le_mul_right _ h2
  · rw [hW]; exact Nat.mul_lt_mul_of_pos_right h1 hp
  · have : (hi + 1) * 2 ^ s ≤ y * 2 ^ s := Nat.mul_le_mul_right _ h
    rw [Nat.add_mul, Nat.one_mul] at this
    omega
  · have h3 : lo * 2 ^ s / 18446744073709551616 = lo / 2 ^ (64 - s) := by
      rw [hW, Nat.mul_div_mul_right _ _ hp]
    have h4 := Nat.div_add_mod (lo * 2 ^ s) 18446744073709551616
    rw [h3] at h4
    rw [Nat.add_mul, Nat.add_mul, Nat.mul_right_comm hi]
    omega
theorem div_back {hi lo y s Q R : Nat} (h1 : (hi * 18446744073709551616 + lo) * 2 ^ s / (y * 2 ^ s) = Q) (h2 : (hi * 18446744073709551616 + lo) * 2 ^ s % (y * 2 ^ s) = R) :
    Q = (hi * 18446744073709551616 + lo) / y ∧ R / 2 ^ s = (hi * 18446744073709551616 + lo) % y := by
  have hp : 0 < 2 ^ s := Nat.pow_pos (by omega)
  rw [Nat.mul_div_mul_right _ _ hp] at h1
  rw [Nat.mul_mod_mul_right] at h2
  exact ⟨h1.symm, by rw [← h2, Nat.mul_div_cancel _ hp]⟩
end Go.Proofs.Ytchgachankcfiaa
