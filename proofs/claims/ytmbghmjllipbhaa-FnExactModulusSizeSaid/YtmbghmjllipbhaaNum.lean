/-
  Plain laws of numbers modulo M: what multiplies away, powers, inverses.
-/
import Derived.Test.YtmbghmjllipbhaaMont
namespace Go.Proofs.Ytmbghmjllipbhaa

theorem mul_mod_congr {M a b c d : Nat} (h1 : a % M = b % M) (h2 : c % M = d % M) : a * c % M = b * d % M := by
  rw [Nat.mul_mod, h1, h2, ← Nat.mul_mod]
theorem add_mod_congr {M a b c d : Nat} (h1 : a % M = b % M) (h2 : c % M = d % M) : (a + c) % M = (b + d) % M := by
  rw [Nat.add_mod, h1, h2, ← Nat.add_mod]
theorem pow_mod_congr {M a b : Nat} (h : a % M = b % M) (n : Nat) : a ^ n % M = b ^ n % M := by
  rw [Nat.pow_mod, h, ← Nat.pow_mod]
theorem add_cancel_mod {m a b c : Nat} (hm : 0 < m) (h : (a + c) % m = (b + c) % m) : a % m = b % m := by
  have e : ∀ z, z % m = ((z + c) + (m - c % m)) % m := fun z => by
    have h1 := Nat.div_add_mod c m
    have h2 := Nat.mod_lt c hm
    rw [show z + c + (m - c % m) = z + m * (c / m + 1) by rw [Nat.mul_add, Nat.mul_one]; omega, Nat.add_mul_mod_self_left]
  rw [e a, e b]
  exact add_mod_congr h rfl
/-- r undoes R modulo M. -/
theorem cancel_mod {R r M x y : Nat} (hr : R * r % M = 1 % M) (h : x * R % M = y * R % M) : x % M = y % M := by
  have e : ∀ z, z % M = z * R * r % M := fun z => by
    rw [Nat.mul_assoc, Nat.mul_mod, hr, ← Nat.mul_mod, Nat.mul_one]
  rw [e x, e y]
  exact mul_mod_congr h rfl
/-- A power of 2 has an inverse modulo an odd number. -/
theorem two_pow_inv {M : Nat} (hM : M % 2 = 1) (k : Nat) : 2 ^ k * ((M + 1) / 2) ^ k % M = 1 % M := by
  rw [← Nat.mul_pow, show 2 * ((M + 1) / 2) = 1 + M by omega]
  have h : (1 + M) % M = 1 % M := Nat.add_mod_right 1 M
  rw [Nat.pow_mod, h, ← Nat.pow_mod, Nat.one_pow]
theorem R_inv {M : Nat} (hM : M % 2 = 1) (n : Nat) : ∃ r, W64 ^ n * r % M = 1 % M := by
  refine ⟨((M + 1) / 2) ^ (64 * n), ?_⟩
  have e : W64 ^ n = 2 ^ (64 * n) := by rw [Nat.pow_mul]; rfl
  rw [e]
  exact two_pow_inv hM _
/-- The Montgomery multiplication of numbers that stand for a and b. -/
theorem mmN_mont {n k A B M a b : Nat} (hk : (k * M + 1) % W64 = 0) (ho : M % 2 = 1) (hA : A < M) (hB : B < W64 ^ n) (h1 : A % M = a * W64 ^ n % M) (h2 : B % M = b * W64 ^ n % M) : mmN n k A B M = a * b * W64 ^ n % M := by
  obtain ⟨h3, h4⟩ := mmN_spec (n := n) hk hA hB
  obtain ⟨r, hr⟩ := R_inv ho n
  have h5 : mmN n k A B M % M = a * b * W64 ^ n % M := by
    refine cancel_mod hr ?_
    rw [h4, mul_mod_congr h1 h2]
    congr 1
    grind
  rw [← h5, Nat.mod_eq_of_lt h3]
/-- A number that stands for a, times one that stands for itself. -/
theorem mmN_plain {n k A B M a b : Nat} (hk : (k * M + 1) % W64 = 0) (ho : M % 2 = 1) (hA : A < M) (hB : B < W64 ^ n) (h1 : A % M = a * W64 ^ n % M) (h2 : B % M = b % M) : mmN n k A B M = a * b % M := by
  obtain ⟨h3, h4⟩ := mmN_spec (n := n) hk hA hB
  obtain ⟨r, hr⟩ := R_inv ho n
  have h5 : mmN n k A B M % M = a * b % M := by
    refine cancel_mod hr ?_
    rw [h4, mul_mod_congr h1 h2]
    congr 1
    grind
  rw [← h5, Nat.mod_eq_of_lt h3]
/-- A number into the Montgomery form. -/
theorem mmN_in {n k X M : Nat} (hk : (k * M + 1) % W64 = 0) (ho : M % 2 = 1) (hX : X < M) (hM : M ≤ W64 ^ n) : mmN n k X (W64 ^ n * W64 ^ n % M) M = X * W64 ^ n % M := by
  have hp : 0 < M := by omega
  have hB : W64 ^ n * W64 ^ n % M < W64 ^ n := Nat.lt_of_lt_of_le (Nat.mod_lt _ hp) hM
  obtain ⟨h3, h4⟩ := mmN_spec (n := n) (A := X) hk hX hB
  obtain ⟨r, hr⟩ := R_inv ho n
  have h5 : mmN n k X (W64 ^ n * W64 ^ n % M) M % M = X * W64 ^ n % M := by
    refine cancel_mod hr ?_
    rw [h4, Nat.mul_mod, Nat.mod_mod, ← Nat.mul_mod, Nat.mul_assoc]
  rw [← h5, Nat.mod_eq_of_lt h3]
/-- A number out of the Montgomery form. -/
theorem mmN_out {n k A M a : Nat} (hk : (k * M + 1) % W64 = 0) (ho : M % 2 = 1) (hA : A < M) (hn : 1 < W64 ^ n) (h1 : A % M = a * W64 ^ n % M) : mmN n k A 1 M = a % M := by
  have := mmN_plain (b := 1) hk ho hA hn h1 rfl
  rwa [Nat.mul_one] at this

/-- X is the inverse of a modulo m. -/
structure IsInv (a m X : Nat) : Prop where
  lt : X < m
  eq : X * a % m = 1 % m
theorem IsInv.unique {a m X Y : Nat} (h : IsInv a m X) (k : IsInv a m Y) : X = Y := by
  have h1 : X % m = Y % m := by
    have e1 : X * (Y * a) % m = X % m := by rw [Nat.mul_mod, k.eq, ← Nat.mul_mod, Nat.mul_one]
    have e2 : Y * (X * a) % m = Y % m := by rw [Nat.mul_mod, h.eq, ← Nat.mul_mod, Nat.mul_one]
    rw [← e1, ← e2]
    congr 1
    grind
  rwa [Nat.mod_eq_of_lt h.lt, Nat.mod_eq_of_lt k.lt] at h1
theorem IsInv.gcd {a m X : Nat} (h : IsInv a m X) (hm : 1 < m) : Nat.gcd a m = 1 := by
  have h1 : Nat.gcd a m ∣ X * a % m := (Nat.dvd_mod_iff (Nat.gcd_dvd_right a m)).2 (Nat.dvd_trans (Nat.gcd_dvd_left a m) (Nat.dvd_mul_left _ _))
  rw [h.eq, Nat.mod_eq_of_lt hm] at h1
  exact Nat.dvd_one.1 h1

/-- What holds at the head of the reference's loop for the inverse. -/
structure EuI (a m r s x y : Nat) : Prop where
  g : Nat.gcd r s = Nat.gcd a m
  ex : x * a % m = r % m
  ey : y * a % m = s % m
  hx : x < m
  hy : y < m
  hr : 0 < r
  lr : r ≤ m
  ls : s < m
theorem EuI.start {a m : Nat} (hm : 1 < m) (ha : a < m) : EuI a m m a 0 1 :=
  ⟨Nat.gcd_comm m a, by simp, by simp, by omega, by omega, by omega, Nat.le_refl _, ha⟩
theorem EuI.next {a m r s x y : Nat} (h : EuI a m r s x y) (hs : 0 < s) : EuI a m s (r % s) y ((x + m - r / s * y % m) % m) where
  g := by rw [← h.g, Nat.gcd_comm s (r % s), Nat.gcd_comm r s]; exact (Nat.gcd_rec s r).symm
  ex := h.ey
  ey := by
    have hm : 0 < m := by have := h.hx; omega
    have hb := Nat.mod_lt (r / s * y) hm
    have e1 : ((x + m - r / s * y % m) + r / s * y) % m = x % m := by
      have e0 : ((x + m - r / s * y % m) + r / s * y) = x + m * (1 + r / s * y / m) := by
        have := Nat.div_add_mod (r / s * y) m
        rw [Nat.mul_add, Nat.mul_one]; omega
      rw [e0, Nat.add_mul_mod_self_left]
    have e2 : ((x + m - r / s * y % m) % m * a + r / s * s) % m = (r % s + r / s * s) % m := by
      have e3 : ((x + m - r / s * y % m) % m * a + r / s * s) % m = ((x + m - r / s * y % m) * a + r / s * (y * a)) % m := by
        refine add_mod_congr ?_ (mul_mod_congr rfl h.ey.symm)
        exact mul_mod_congr (Nat.mod_mod _ _) rfl
      rw [e3, ← Nat.mul_assoc, ← Nat.add_mul, mul_mod_congr e1 rfl, h.ex]
      congr 1
      have := Nat.div_add_mod r s
      rw [Nat.mul_comm] at this
      omega
    exact add_cancel_mod hm e2
  hx := h.hy
  hy := Nat.mod_lt _ (by have := h.hx; omega)
  hr := hs
  lr := Nat.le_of_lt h.ls
  ls := Nat.lt_trans (Nat.mod_lt _ hs) h.ls
theorem EuI.done {a m r x y : Nat} (h : EuI a m r 0 x y) : r = Nat.gcd a m ∧ (r = 1 → IsInv a m x) := by
  refine ⟨by have := h.g; rwa [Nat.gcd_zero_right] at this, fun e => ⟨h.hx, by rw [h.ex, e]⟩⟩
end Go.Proofs.Ytmbghmjllipbhaa
