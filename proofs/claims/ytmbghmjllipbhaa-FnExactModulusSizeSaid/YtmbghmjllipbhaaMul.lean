/-
  Contracts: bits.Mul64, bits.Mul, minusInverseModW.
-/
import Derived.Test.YtmbghmjllipbhaaNatJ
namespace Go.Proofs.Ytmbghmjllipbhaa
open Go.RowKit

/-- The upper half of a product of two limbs. -/
def mulH (x y : Nat) : Nat := x * y / W64
theorem mul_halves (x y : Nat) : x * y = mulH x y * W64 + mulW x y := by
  unfold mulH mulW
  rw [Nat.mul_comm _ W64]
  exact (Nat.div_add_mod _ _).symm
theorem mulH_le {x y : Nat} (hx : x < 18446744073709551616) (hy : y < 18446744073709551616) : mulH x y ≤ 18446744073709551614 := by
  have h1 : x * y ≤ 18446744073709551615 * 18446744073709551615 := Nat.mul_le_mul (by omega) (by omega)
  unfold mulH W64
  omega

theorem low32 (x : Nat) : bits .and .u64 (x : Int) 4294967295 = ((x % 4294967296 : Nat) : Int) := by
  rw [show (4294967295 : Int) = ((4294967295 : Nat) : Int) from rfl, bits_and]
  congr 1
  unfold andW
  rw [show (4294967295 : Nat) = 2 ^ 32 - 1 from rfl, Nat.and_two_pow_sub_one_eq_mod]
  exact Nat.mod_eq_of_lt (by unfold W64; omega)
theorem mul32 {q v0 : Nat} (hq : q < 4294967296) (hv : v0 < 4294967296) : q * v0 ≤ 18446744065119617025 := by
  have := Nat.mul_le_mul (show q ≤ 4294967295 by omega) (show v0 ≤ 4294967295 by omega)
  omega
theorem wrapN {x : Int} (n : Nat) (h : x = (n : Int)) (hn : n < 18446744073709551616) : IntKind.u64.wrap x = (n : Int) := by
  subst h
  exact IntWalk.u64_in _ (by omega)

theorem mul64_eqs (x y : Nat) (hx : x < 18446744073709551616) (hy : y < 18446744073709551616) :
    ∃ x0 x1 y0 y1 a c t w1 w2 d s s1 e u b : Nat, bits .and .u64 (x : Int) 4294967295 = (x0 : Int) ∧ (x : Int) / 4294967296 = (x1 : Int) ∧ bits .and .u64 (y : Int) 4294967295 = (y0 : Int) ∧ (y : Int) / 4294967296 = (y1 : Int)
      ∧ IntKind.u64.wrap ((x0 : Int) * (y0 : Int)) = (a : Int) ∧ (a : Int) / 4294967296 = (c : Int) ∧ IntKind.u64.wrap ((x1 : Int) * (y0 : Int)) = (b : Int) ∧ IntKind.u64.wrap ((b : Int) + (c : Int)) = (t : Int)
      ∧ bits .and .u64 (t : Int) 4294967295 = (w1 : Int) ∧ (t : Int) / 4294967296 = (w2 : Int) ∧ IntKind.u64.wrap ((x0 : Int) * (y1 : Int)) = (d : Int) ∧ IntKind.u64.wrap ((w1 : Int) + (d : Int)) = (s : Int)
      ∧ (s : Int) / 4294967296 = (s1 : Int) ∧ IntKind.u64.wrap ((x1 : Int) * (y1 : Int)) = (e : Int) ∧ IntKind.u64.wrap ((e : Int) + (w2 : Int)) = (u : Int) ∧ IntKind.u64.wrap ((u : Int) + (s1 : Int)) = ((mulH x y : Nat) : Int) := by
  have hx1 : x / 4294967296 < 4294967296 := by omega
  have hy1 : y / 4294967296 < 4294967296 := by omega
  have hx0 : x % 4294967296 < 4294967296 := by omega
  have hy0 : y % 4294967296 < 4294967296 := by omega
  have ex : x = 4294967296 * (x / 4294967296) + x % 4294967296 := (Nat.div_add_mod _ _).symm
  have ey : y = 4294967296 * (y / 4294967296) + y % 4294967296 := (Nat.div_add_mod _ _).symm
  generalize gx1 : x / 4294967296 = x1 at *
  generalize gx0 : x % 4294967296 = x0 at *
  generalize gy1 : y / 4294967296 = y1 at *
  generalize gy0 : y % 4294967296 = y0 at *
  have ha := mul32 hx0 hy0
  have hb := mul32 hx1 hy0
  have hd := mul32 hx0 hy1
  have he := mul32 hx1 hy1
  have hxy : x * y = x1 * y1 * 18446744073709551616 + (x1 * y0 + x0 * y1) * 4294967296 + x0 * y0 := by
    rw [ex, ey, Nat.add_mul, Nat.mul_add, Nat.mul_add]
    have e1 : 4294967296 * x1 * (4294967296 * y1) = x1 * y1 * 18446744073709551616 := by
      rw [Nat.mul_mul_mul_comm, Nat.mul_comm]
    have e2 : 4294967296 * x1 * y0 = x1 * y0 * 4294967296 := by rw [Nat.mul_assoc, Nat.mul_comm]
    have e3 : x0 * (4294967296 * y1) = x0 * y1 * 4294967296 := by rw [Nat.mul_left_comm, Nat.mul_comm]
    rw [e1, e2, e3]
    omega
  have hm : mulH x y = (x1 * y1 * 18446744073709551616 + (x1 * y0 + x0 * y1) * 4294967296 + x0 * y0) / 18446744073709551616 := by
    unfold mulH W64; rw [hxy]
  have hml := mulH_le hx hy
  generalize mulH x y = m at *
  have p1 : IntKind.u64.wrap ((x0 : Int) * (y0 : Int)) = ((x0 * y0 : Nat) : Int) := wrapN _ (by simp) (by omega)
  have p2 : IntKind.u64.wrap ((x1 : Int) * (y0 : Int)) = ((x1 * y0 : Nat) : Int) := wrapN _ (by simp) (by omega)
  have p3 : IntKind.u64.wrap ((x0 : Int) * (y1 : Int)) = ((x0 * y1 : Nat) : Int) := wrapN _ (by simp) (by omega)
  have p4 : IntKind.u64.wrap ((x1 : Int) * (y1 : Int)) = ((x1 * y1 : Nat) : Int) := wrapN _ (by simp) (by omega)
  have q1 := low32 x
  have q2 := low32 y
  rw [gx0] at q1
  rw [gy0] at q2
  generalize x0 * y0 = a at *
  generalize x1 * y0 = b at *
  generalize x0 * y1 = d at *
  generalize x1 * y1 = e at *
  refine ⟨x0, x1, y0, y1, a, a / 4294967296, b + a / 4294967296, (b + a / 4294967296) % 4294967296, (b + a / 4294967296) / 4294967296, d, (b + a / 4294967296) % 4294967296 + d, ((b + a / 4294967296) % 4294967296 + d) / 4294967296, e, e + (b + a / 4294967296) / 4294967296, b, q1, by omega, q2, by omega, p1, by omega, p2, wrapN _ (by omega) (by omega), low32 _, by omega, p3, wrapN _ (by omega) (by omega), by omega, p4, wrapN _ (by omega) (by omega), wrapN _ (by omega) (by omega)⟩

set_option maxRecDepth 100000 in
set_option maxHeartbeats 1000000 in
theorem mul64_any (x y : Nat) (w : World) (hx : x < 18446744073709551616) (hy : y < 18446744073709551616) :
    Calls Try.prog 167 #[.int .u64 x, .int .u64 y] w fun e w' => e = .returned (.tuple #[.int .u64 (mulH x y), .int .u64 (mulW x y)]) ∧ w = w' := by
  obtain ⟨x0, x1, y0, y1, a, c, t, w1, w2, d, s, s1, e, u, b, q1, q2, q3, q4, q5, q6, q7, q8, q9, q10, q11, q12, q13, q14, q15, q16⟩ := mul64_eqs x y hx hy
  have q17 := wrap_mul x y
  clear hx hy
  go_enter Try.func167, Try.ntmps167
  go_wp2
  go_ret2
  exact ⟨rfl, rfl⟩
set_option maxHeartbeats 400000 in
theorem mul_any (x y : Nat) (w : World) (hx : x < 18446744073709551616) (hy : y < 18446744073709551616) :
    Calls Try.prog 155 #[.int .u64 x, .int .u64 y] w fun e w' => e = .returned (.tuple #[.int .u64 (mulH x y), .int .u64 (mulW x y)]) ∧ w = w' := by
  go_enter Try.func155, Try.ntmps155
  go_wp2_with fail
  with_reducible refine (mul64_any x y w hx hy).mono ?_
  rintro e w1 ⟨rfl, rfl⟩
  go_wp2_with fail
  go_ret2
  exact ⟨rfl, rfl⟩
end Go.Proofs.Ytmbghmjllipbhaa
