/-
  Contracts: bits.Mul64, bits.Mul, minusInverseModW.
  Contracts: minusInverseModW, addMulVVW.
  The plain law of the Montgomery multiplication.
  copy, as the walk of a drawn region asks it.
-/
import Derived.Test.YtpojonfopoobpaaNatJ
namespace Go.Proofs.Ytpojonfopoobpaa
open Go.RowKit

/-- The upper half of a product of two limbs. -/
def mulH (x y : Nat) : Nat := x * y / W64
theorem mul_halves (x y : Nat) : x * y = mulH x y * W64 + mulW x y := by
  unfold mulH mulW
  rw [Nat.mul_comm _ W64]
  exact (Nat.div_add_mod _ _).symm
theorem mulH_le {x y : Nat} (hx : x < 18446744073709551616) (hy : y < 18446744073709551616) : mulH x y ≤ 18446744073709551614 := by
  have h1 : x * y ≤ 18446744073709551615 * 18446744073709551615 := Nat.mul_le_mul (by omega) (by omega)
  unfold mulH W64
  omega

theorem low32 (x : Nat) : bits .and .u64 (x : Int) 4294967295 = ((x % 4294967296 : Nat) : Int) := by
  rw [show (4294967295 : Int) = ((4294967295 : Nat) : Int) from rfl, bits_and]
  congr 1
  unfold andW
  rw [show (4294967295 : Nat) = 2 ^ 32 - 1 from rfl, Nat.and_two_pow_sub_one_eq_mod]
  exact Nat.mod_eq_of_lt (by unfold W64; omega)
theorem mul32 {q v0 : Nat} (hq : q < 4294967296) (hv : v0 < 4294967296) : q * v0 ≤ 18446744065119617025 := by
  have := Nat.mul_le_mul (show q ≤ 4294967295 by omega) (show v0 ≤ 4294967295 by omega)
  omega
theorem wrapN {x : Int} (n : Nat) (h : x = (n : Int)) (hn : n < 18446744073709551616) : IntKind.u64.wrap x = (n : Int) := by
  subst h
  exact IntWalk.u64_in _ (by omega)

theorem mul64_eqs (x y : Nat) (hx : x < 18446744073709551616) (hy : y < 18446744073709551616) :
    ∃ x0 x1 y0 y1 a c t w1 w2 d s s1 e u b : Nat, bits .and .u64 (x : Int) 4294967295 = (x0 : Int) ∧ (x : Int) / 4294967296 = (x1 : Int) ∧ bits .and .u64 (y : Int) 4294967295 = (y0 : Int) ∧ (y : Int) / 4294967296 = (y1 : Int)
      ∧ IntKind.u64.wrap ((x0 : Int) * (y0 : Int)) = (a : Int) ∧ (a : Int) / 4294967296 = (c : Int) ∧ IntKind.u64.wrap ((x1 : Int) * (y0 : Int)) = (b : Int) ∧ IntKind.u64.wrap ((b : Int) + (c : Int)) = (t : Int)
      ∧ bits .and .u64 (t : Int) 4294967295 = (w1 : Int) ∧ (t : Int) / 4294967296 = (w2 : Int) ∧ IntKind.u64.wrap ((x0 : Int) * (y1 : Int)) = (d : Int) ∧ IntKind.u64.wrap ((w1 : Int) + (d : Int)) = (s : Int)
      ∧ (s : Int) / 4294967296 = (s1 : Int) ∧ IntKind.u64.wrap ((x1 : Int) * (y1 : Int)) = (e : Int) ∧ IntKind.u64.wrap ((e : Int) + (w2 : Int)) = (u : Int) ∧ IntKind.u64.wrap ((u : Int) + (s1 : Int)) = ((mulH x y : Nat) : Int) := by
  have hx1 : x / 4294967296 < 4294967296 := by omega
  have hy1 : y / 4294967296 < 4294967296 := by omega
  have hx0 : x % 4294967296 < 4294967296 := by omega
  have hy0 : y % 4294967296 < 4294967296 := by omega
  have ex : x = 4294967296 * (x / 4294967296) + x % 4294967296 := (Nat.div_add_mod _ _).symm
  have ey : y = 4294967296 * (y / 4294967296) + y % 4294967296 := (Nat.div_add_mod _ _).symm
  generalize gx1 : x / 4294967296 = x1 at *
  generalize gx0 : x % 4294967296 = x0 at *
  generalize gy1 : y / 4294967296 = y1 at *
  generalize gy0 : y % 4294967296 = y0 at *
  have ha := mul32 hx0 hy0
  have hb := mul32 hx1 hy0
  have hd := mul32 hx0 hy1
  have he := mul32 hx1 hy1
  have hxy : x * y = x1 * y1 * 18446744073709551616 + (x1 * y0 + x0 * y1) * 4294967296 + x0 * y0 := by
    rw [ex, ey, Nat.add_mul, Nat.mul_add, Nat.mul_add]
    have e1 : 4294967296 * x1 * (4294967296 * y1) = x1 * y1 * 18446744073709551616 := by
      rw [Nat.mul_mul_mul_comm, Nat.mul_comm]
    have e2 : 4294967296 * x1 * y0 = x1 * y0 * 4294967296 := by rw [Nat.mul_assoc, Nat.mul_comm]
    have e3 : x0 * (4294967296 * y1) = x0 * y1 * 4294967296 := by rw [Nat.mul_left_comm, Nat.mul_comm]
    rw [e1, e2, e3]
    omega
  have hm : mulH x y = (x1 * y1 * 18446744073709551616 + (x1 * y0 + x0 * y1) * 4294967296 + x0 * y0) / 18446744073709551616 := by
    unfold mulH W64; rw [hxy]
  have hml := mulH_le hx hy
  generalize mulH x y = m at *
  have p1 : IntKind.u64.wrap ((x0 : Int) * (y0 : Int)) = ((x0 * y0 : Nat) : Int) := wrapN _ (by simp) (by omega)
  have p2 : IntKind.u64.wrap ((x1 : Int) * (y0 : Int)) = ((x1 * y0 : Nat) : Int) := wrapN _ (by simp) (by omega)
  have p3 : IntKind.u64.wrap ((x0 : Int) * (y1 : Int)) = ((x0 * y1 : Nat) : Int) := wrapN _ (by simp) (by omega)
  have p4 : IntKind.u64.wrap ((x1 : Int) * (y1 : Int)) = ((x1 * y1 : Nat) : Int) := wrapN _ (by simp) (by omega)
  have q1 := low32 x
  have q2 := low32 y
  rw [gx0] at q1
  rw [gy0] at q2
  generalize x0 * y0 = a at *
  generalize x1 * y0 = b at *
  generalize x0 * y1 = d at *
  generalize x1 * y1 = e at *
  refine ⟨x0, x1, y0, y1, a, a / 4294967296, b + a / 4294967296, (b + a / 4294967296) % 4294967296, (b + a / 4294967296) / 4294967296, d, (b + a / 4294967296) % 4294967296 + d, ((b + a / 4294967296) % 4294967296 + d) / 4294967296, e, e + (b + a / 4294967296) / 4294967296, b, q1, by omega, q2, by omega, p1, by omega, p2, wrapN _ (by omega) (by omega), low32 _, by omega, p3, wrapN _ (by omega) (by omega), by omega, p4, wrapN _ (by omega) (by omega), wrapN _ (by omega) (by omega)⟩

set_option maxRecDepth 100000 in
set_option maxHeartbeats 1000000 in
theorem mul64_any (x y : Nat) (w : World) (hx : x < 18446744073709551616) (hy : y < 18446744073709551616) :
    Calls Try.prog 155 #[.int .u64 x, .int .u64 y] w fun e w' => e = .returned (.tuple #[.int .u64 (mulH x y), .int .u64 (mulW x y)]) ∧ w = w' := by
  obtain ⟨x0, x1, y0, y1, a, c, t, w1, w2, d, s, s1, e, u, b, q1, q2, q3, q4, q5, q6, q7, q8, q9, q10, q11, q12, q13, q14, q15, q16⟩ := mul64_eqs x y hx hy
  have q17 := wrap_mul x y
  clear hx hy
  go_enter Try.func155, Try.ntmps155
  go_wp2
  go_ret2
  exact ⟨rfl, rfl⟩
set_option maxHeartbeats 400000 in
theorem mul_any (x y : Nat) (w : World) (hx : x < 18446744073709551616) (hy : y < 18446744073709551616) :
    Calls Try.prog 140 #[.int .u64 x, .int .u64 y] w fun e w' => e = .returned (.tuple #[.int .u64 (mulH x y), .int .u64 (mulW x y)]) ∧ w = w' := by
  go_enter Try.func140, Try.ntmps140
  go_wp2_with fail
  with_reducible refine (mul64_any x y w hx hy).mono ?_
  rintro e w1 ⟨rfl, rfl⟩
  go_wp2_with fail
  go_ret2
  exact ⟨rfl, rfl⟩
end Go.Proofs.Ytpojonfopoobpaa

namespace Go.Proofs.Ytpojonfopoobpaa
open Go.RowKit

/-- The number below digit k of Z + X * y. -/
def amN (f g : Nat → Nat) (y k : Nat) : Nat := ofD W64 f k + ofD W64 g k * y
theorem amN_zero (f g : Nat → Nat) (y : Nat) : amN f g y 0 = 0 := by simp [amN, ofD]
theorem amN_succ (f g : Nat → Nat) (y k : Nat) : amN f g y (k + 1) = amN f g y k + W64 ^ k * (f k + g k * y) := by
  unfold amN
  simp only [ofD]
  rw [Nat.add_mul, Nat.mul_add, Nat.mul_assoc]
  omega
theorem amN_div (f g : Nat → Nat) (y k : Nat) : amN f g y (k + 1) / W64 ^ k = amN f g y k / W64 ^ k + (f k + g k * y) := by
  rw [amN_succ, Nat.add_mul_div_left _ _ (Nat.pow_pos W64_pos)]
theorem amN_add (f g : Nat → Nat) (y k j : Nat) : ∃ r, amN f g y (k + j) = amN f g y k + W64 ^ k * r := by
  induction j with
  | zero => exact ⟨0, by simp⟩
  | succ j ih =>
    obtain ⟨r, h⟩ := ih
    refine ⟨r + W64 ^ j * (f (k + j) + g (k + j) * y), ?_⟩
    rw [← Nat.add_assoc, amN_succ, h]
    generalize f (k + j) + g (k + j) * y = F
    rw [Nat.mul_add, Nat.pow_add, Nat.mul_assoc, Nat.add_assoc]
theorem amN_dg (f g : Nat → Nat) (y k n : Nat) (hk : k < n) : dg W64 (amN f g y n) k = amN f g y (k + 1) / W64 ^ k % W64 := by
  obtain ⟨r, h⟩ := amN_add f g y (k + 1) (n - (k + 1))
  rw [show k + 1 + (n - (k + 1)) = n by omega] at h
  rw [h]
  rw [← dg_mod_lt W64_pos (Nat.lt_succ_self k), Nat.add_mul_mod_self_left, dg_mod_lt W64_pos (Nat.lt_succ_self k)]
  rfl
theorem amN_carry_lt {f g : Nat → Nat} {y n : Nat} (hf : ∀ i, i < n → f i < W64) (hg : ∀ i, i < n → g i < W64) (hy : y < W64) : amN f g y n / W64 ^ n < W64 := by
  have hp : 0 < W64 ^ n := Nat.pow_pos W64_pos
  rw [Nat.div_lt_iff_lt_mul hp]
  have h1 := ofD_lt W64_pos hf
  have h2 := ofD_lt W64_pos hg
  unfold amN
  generalize ofD W64 f n = a at *
  generalize ofD W64 g n = d at *
  generalize W64 ^ n = u at *
  have h3 : d * y ≤ (u - 1) * (W64 - 1) := Nat.mul_le_mul (by omega) (by omega)
  have h4 : (u - 1) * (W64 - 1) + (u - 1) = (u - 1) * W64 := by
    obtain ⟨t, ht⟩ : ∃ t, W64 = t + 1 := ⟨W64 - 1, by have := W64_pos; omega⟩
    rw [ht, Nat.add_sub_cancel, Nat.mul_succ]
  have h5 : (u - 1) * W64 + W64 = W64 * u := by
    obtain ⟨t, rfl⟩ : ∃ t, u = t + 1 := ⟨u - 1, by omega⟩
    rw [Nat.add_sub_cancel, Nat.mul_succ, Nat.mul_comm]
  have := W64_pos
  omega
/-- One step of the long multiplication, as the code reckons it. -/
theorem am_step {x y z c : Nat} (hx : x < 18446744073709551616) (hy : y < 18446744073709551616) (hz : z < 18446744073709551616) (hc : c < 18446744073709551616) :
    sumW (sumW (mulW x y) z 0) c 0 = (c + (z + x * y)) % W64 ∧ sumW (sumW (mulH x y) 0 (carW (mulW x y) z 0)) 0 (carW (sumW (mulW x y) z 0) c 0) = (c + (z + x * y)) / W64 := by
  have h1 := mul_halves x y
  have h2 := mulH_le hx hy
  have h3 := mulW_lt x y
  have h4 : x * y ≤ 18446744073709551615 * 18446744073709551615 := Nat.mul_le_mul (by omega) (by omega)
  rw [h1] at h4 ⊢
  clear h1
  generalize mulH x y = a at *
  generalize mulW x y = d at *
  unfold sumW carW W64 at *
  omega

theorem bitsAdd_zero (x y : Nat) (w : World) (hx : x < 18446744073709551616) (hy : y < 18446744073709551616) :
    Calls Try.prog 130 #[.int .u64 x, .int .u64 y, .int .u64 0] w fun e w' => e = .returned (.tuple #[.int .u64 (sumW x y 0), .int .u64 (carW x y 0)]) ∧ w = w' := bitsAdd_any x y 0 w (by omega) hx hy
theorem bitsAdd_mid (x c : Nat) (w : World) (hx : x < 18446744073709551616) (hc : c ≤ 1) :
    Calls Try.prog 130 #[.int .u64 x, .int .u64 0, .int .u64 c] w fun e w' => e = .returned (.tuple #[.int .u64 (sumW x 0 c), .int .u64 (carW x 0 c)]) ∧ w = w' := bitsAdd_any x 0 c w hc hx (by omega)
set_option maxRecDepth 100000 in
set_option maxHeartbeats 4000000 in
theorem addMul_any (bz N off n cz bx nx cx y : Nat) (f g : Nat → Nat) (w : World) (hz : Own .u64 w bz N f) (hf : ∀ i, i < N → f i < W64) (hoff : off + n ≤ N) (hn : 1 ≤ n) (hN : N ≤ 65536) (hx : Own .u64 w bx nx g) (hnx : n ≤ nx) (hnx2 : nx ≤ 65536) (hg : ∀ i, i < nx → g i < W64) (hne : bx ≠ bz) (hy : y < 18446744073709551616) :
    Calls Try.prog 106 #[.slice (some ⟨bz, off, none⟩) n cz, .slice (some ⟨bx, 0, none⟩) nx cx, .int .u64 y] w fun e w' => e = .returned (.int .u64 (amN (fun i => f (off + i)) g y n / W64 ^ n : Nat)) ∧ Wrote w w' bz N (fun j => if off ≤ j ∧ j < off + n then dg W64 (amN (fun i => f (off + i)) g y n) (j - off) else f j) := by
  have hlast : w.cell? ⟨bx, n - 1, none⟩ = some (.int .u64 (g (n - 1) : Nat)) := hx.cell (n - 1) (by omega)
  have j1 : (n : Int) - 1 < (nx : Int) := by omega
  have j2 : (0 : Int) ≤ (n : Int) - 1 := by omega
  have j3 : ((n : Int) - 1).toNat = n - 1 := by omega
  go_enter Try.func106, Try.ntmps106
  go_wp2
  clear hlast
  go_loopw [6, 19] (fun s i wr => ∃ k z : Nat, k ≤ n ∧ i = .int .i64 k ∧ s = .int .u64 z ∧ z < 18446744073709551616 ∧ Hid (z = amN (fun i => f (off + i)) g y k / W64 ^ k) ∧ Wrote w wr bz N (fun j => if off ≤ j ∧ j < off + k then dg W64 (amN (fun i => f (off + i)) g y n) (j - off) else f j)) (fun _ i _ => n - (intOf i).toNat)
  case atStart => exact ⟨0, 0, Nat.zero_le _, rfl, rfl, by omega, by show _ = _; rw [amN_zero]; simp, .start (hz.congr (fun j _ => by rw [if_neg (by omega)]))⟩
  case round =>
    obtain ⟨k, z, hk, rfl, rfl, hz2, HZ, hw⟩ := hrel
    by_cases hlt : k < n
    · obtain ⟨d, hc1, hf1, hd, HD⟩ := hw.limb (show off + k < N by omega) (by rw [if_neg (by omega)]; exact hf _ (by omega))
      have HD : Hid (d = f (off + k)) := by rw [if_neg (by omega)] at HD; exact HD
      obtain ⟨x, hx1, hxl, HX⟩ : ∃ x : Nat, wr.cell? ⟨bx, k, none⟩ = some (.int .u64 (x : Nat)) ∧ x < 18446744073709551616 ∧ Hid (x = g k) := ⟨g k, hw.upd.cell (p := ⟨bx, k, none⟩) hne (hx.cell k (by omega)), hg k (by omega), rfl⟩
      have i1 : (k : Int) < (n : Int) := by omega
      have i2 : (k : Int) < (nx : Int) := by omega
      obtain ⟨HL, HH⟩ := am_step hxl hy hd hz2
      have HS : Hid (z + (d + x * y) = amN (fun i => f (off + i)) g y (k + 1) / W64 ^ k) := by
        show _ = _
        rw [amN_div, HZ.out, HD.out, HX.out]
      rw [HS.out] at HL HH
      rw [← amN_dg _ _ _ _ _ hlt] at HL
      rw [Nat.div_div_eq_div_mul, ← Nat.pow_succ] at HH
      obtain ⟨lo, Hlo⟩ : ∃ lo, Hid (lo = mulW x y) := ⟨_, rfl⟩
      obtain ⟨hi, Hhi⟩ : ∃ hi, Hid (hi = mulH x y) := ⟨_, rfl⟩
      have hlo : lo < 18446744073709551616 := by rw [Hlo.out]; exact mulW_lt _ _
      have hhi : hi ≤ 18446744073709551614 := by rw [Hhi.out]; exact mulH_le hxl hy
      rw [← Hlo.out] at HL HH
      rw [← Hhi.out] at HH
      have hmul := mul_any x y wr hxl hy
      rw [← Hlo.out, ← Hhi.out] at hmul
      obtain ⟨lo1, Hlo1⟩ : ∃ lo1, Hid (lo1 = sumW lo d 0) := ⟨_, rfl⟩
      obtain ⟨c1, Hc1⟩ : ∃ c1, Hid (c1 = carW lo d 0) := ⟨_, rfl⟩
      have hlo1 : lo1 < 18446744073709551616 := by rw [Hlo1.out]; exact sumW_lt _ _ _
      have hc1' : c1 ≤ 1 := by rw [Hc1.out]; exact carW_le hlo hd (by omega)
      have ha1 := bitsAdd_zero lo d wr hlo hd
      rw [← Hlo1.out] at HL HH ha1
      rw [← Hc1.out] at HH ha1
      obtain ⟨hi1, Hhi1⟩ : ∃ hi1, Hid (hi1 = sumW hi 0 c1) := ⟨_, rfl⟩
      have hhi1 : hi1 < 18446744073709551616 := by rw [Hhi1.out]; exact sumW_lt _ _ _
      have ha2 := bitsAdd_mid hi c1 wr (by omega) hc1'
      rw [← Hhi1.out] at HH ha2
      obtain ⟨lo2, Hlo2⟩ : ∃ lo2, Hid (lo2 = sumW lo1 z 0) := ⟨_, rfl⟩
      obtain ⟨c2, Hc2⟩ : ∃ c2, Hid (c2 = carW lo1 z 0) := ⟨_, rfl⟩
      have hlo2 : lo2 < 18446744073709551616 := by rw [Hlo2.out]; exact sumW_lt _ _ _
      have hc2' : c2 ≤ 1 := by rw [Hc2.out]; exact carW_le hlo1 hz2 (by omega)
      have ha3 := bitsAdd_zero lo1 z wr hlo1 hz2
      rw [← Hlo2.out] at HL ha3
      rw [← Hc2.out] at HH ha3
      obtain ⟨hi2, Hhi2⟩ : ∃ hi2, Hid (hi2 = sumW hi1 0 c2) := ⟨_, rfl⟩
      have hhi2 : hi2 < 18446744073709551616 := by rw [Hhi2.out]; exact sumW_lt _ _ _
      have ha4 := bitsAdd_mid hi1 c2 wr hhi1 hc2'
      rw [← Hhi2.out] at HH ha4
      replace HL := Lib.hid HL
      replace HH := Lib.hid HH
      replace hmul := Lib.hid hmul
      replace ha1 := Lib.hid ha1
      replace ha2 := Lib.hid ha2
      replace ha3 := Lib.hid ha3
      replace ha4 := Lib.hid ha4
      go_wp2_with fail
      with_reducible refine hmul.out.mono ?_
      rintro e w' ⟨rfl, rfl⟩
      go_wp2_with fail
      with_reducible refine ha1.out.mono ?_
      rintro e w' ⟨rfl, rfl⟩
      go_wp2_with fail
      with_reducible refine ha2.out.mono ?_
      rintro e w' ⟨rfl, rfl⟩
      go_wp2_with fail
      with_reducible refine ha3.out.mono ?_
      rintro e w' ⟨rfl, rfl⟩
      go_wp2_with fail
      with_reducible refine ha4.out.mono ?_
      rintro e w' ⟨rfl, rfl⟩
      go_wp2_with fail
      go_roundw
      case rel => exact ⟨k + 1, hi2, by omega, by go_num, rfl, hhi2, HH, (hw.set (show off + k < N by omega) lo2 rfl).congr fun j hj => by
        rw [HL.out]
        by_cases e : j = off + k
        · subst e; rw [if_pos rfl, if_pos (by omega), Nat.add_sub_cancel_left]
        · rw [if_neg e]
          by_cases e2 : off ≤ j ∧ j < off + k
          · rw [if_pos e2, if_pos (by omega)]
          · rw [if_neg e2, if_neg (by omega)]⟩
      case measure => simp [intOf]; omega
    · obtain rfl : n = k := by omega
      have HE := Lib.hid HZ.out
      go_wp2
      go_ret
      exact ⟨ret_nat HE.out, hw⟩

/-- One step towards the inverse modulo W64. -/
def nyN (x y : Nat) : Nat := mulW y (subW 2 (mulW x y))
def itN (x : Nat) : Nat → Nat
  | 0 => x
  | i + 1 => nyN x (itN x i)
/-- What minusInverseModW gives. -/
def minvN (x : Nat) : Nat := subW 0 (itN x 5)
theorem itN_lt {x : Nat} (hx : x < 18446744073709551616) (i : Nat) : itN x i < 18446744073709551616 := by
  cases i with
  | zero => exact hx
  | succ i => exact mulW_lt _ _
theorem minvN_lt (x : Nat) : minvN x < 18446744073709551616 := subW_lt _ _
theorem mulW_int (x y : Nat) : ∃ t : Int, ((mulW x y : Nat) : Int) = (x : Int) * y + 18446744073709551616 * t := by
  refine ⟨-(((x : Int) * y) / 18446744073709551616), ?_⟩
  have h : ((mulW x y : Nat) : Int) = ((x : Int) * y) % 18446744073709551616 := by
    unfold mulW W64; simp
  rw [h, Int.emod_def]
  rw [Int.mul_neg]
  omega
theorem subW_int (x y : Nat) : ∃ t : Int, ((subW x y : Nat) : Int) = (x : Int) - y + 18446744073709551616 * t := by
  have h : ((subW x y : Nat) : Int) = ((x : Int) - y) % 18446744073709551616 := by
    unfold subW W64; omega
  refine ⟨-(((x : Int) - y) / 18446744073709551616), ?_⟩
  rw [h, Int.emod_def, Int.mul_neg]
  omega
theorem nyN_int (x y : Nat) : ∃ t : Int, ((nyN x y : Nat) : Int) = (y : Int) * (2 - x * y) + 18446744073709551616 * t := by
  obtain ⟨a, ha⟩ := mulW_int x y
  obtain ⟨b, hb⟩ := subW_int 2 (mulW x y)
  obtain ⟨c, hc⟩ := mulW_int y (subW 2 (mulW x y))
  refine ⟨y * (b - a) + c, ?_⟩
  show ((mulW y (subW 2 (mulW x y)) : Nat) : Int) = _
  rw [hc, hb, ha]
  generalize (x : Int) = X
  generalize (y : Int) = Y
  show Y * (2 - (X * Y + 18446744073709551616 * a) + 18446744073709551616 * b) + 18446744073709551616 * c = _
  grind
theorem two_pow_dvd {a b : Nat} (h : a ≤ b) : (2 : Int) ^ a ∣ 2 ^ b := ⟨2 ^ (b - a), by rw [← Int.pow_add, show a + (b - a) = b by omega]⟩
theorem ny_dvd {x y k K : Nat} (hK : K ≤ 2 * k) (hK2 : K ≤ 64) (h : (2 : Int) ^ k ∣ (x : Int) * y - 1) : (2 : Int) ^ K ∣ (x : Int) * (nyN x y : Nat) - 1 := by
  obtain ⟨t, ht⟩ := nyN_int x y
  obtain ⟨r, hr⟩ := h
  have e : (x : Int) * (nyN x y : Nat) - 1 = -((x * y - 1) * (x * y - 1)) + 18446744073709551616 * (x * t) := by
    rw [ht]
    generalize (x : Int) = X
    generalize (y : Int) = Y
    grind
  rw [e, hr]
  refine Int.dvd_add ?_ ?_
  · refine (Int.dvd_neg).2 ?_
    have : (2 : Int) ^ k * r * (2 ^ k * r) = 2 ^ (2 * k) * (r * r) := by
      rw [Nat.two_mul, Int.pow_add]
      grind
    rw [this]
    exact Int.dvd_mul_of_dvd_left (two_pow_dvd hK)
  · have : (18446744073709551616 : Int) = 2 ^ 64 := rfl
    rw [this]
    exact Int.dvd_mul_of_dvd_left (two_pow_dvd hK2)
theorem minvN_spec {x : Nat} (hodd : x % 2 = 1) : (minvN x * x + 1) % W64 = 0 := by
  have h0 : (2 : Int) ^ 3 ∣ (x : Int) * (itN x 0 : Nat) - 1 := by
    show (2 : Int) ^ 3 ∣ (x : Int) * x - 1
    obtain ⟨q, r, hq, hr⟩ : ∃ q r : Nat, x = 8 * q + r ∧ (r = 1 ∨ r = 3 ∨ r = 5 ∨ r = 7) := ⟨x / 8, x % 8, by omega, by omega⟩
    rw [hq]
    have : ((8 * q + r : Nat) : Int) * ((8 * q + r : Nat) : Int) - 1 = 8 * (8 * (q * q) + 2 * (q * r)) + ((r : Int) * r - 1) := by
      push_cast
      grind
    rw [this]
    refine Int.dvd_add ⟨_, rfl⟩ ?_
    rcases hr with rfl | rfl | rfl | rfl <;> decide
  have h1 := ny_dvd (K := 6) (by omega) (by omega) h0
  have h2 := ny_dvd (K := 12) (by omega) (by omega) h1
  have h3 := ny_dvd (K := 24) (by omega) (by omega) h2
  have h4 := ny_dvd (K := 48) (by omega) (by omega) h3
  have h5 := ny_dvd (K := 64) (by omega) (by omega) h4
  have h6 : (2 : Int) ^ 64 ∣ (x : Int) * (itN x 5 : Nat) - 1 := h5
  obtain ⟨t, ht⟩ := subW_int 0 (itN x 5)
  have h7 : ((W64 : Nat) : Int) ∣ ((minvN x * x + 1 : Nat) : Int) := by
    obtain ⟨r, hr⟩ := h6
    refine ⟨t * x - r, ?_⟩
    have e1 : ((minvN x : Nat) : Int) = -(itN x 5 : Nat) + 18446744073709551616 * t := by
      show ((subW 0 (itN x 5) : Nat) : Int) = _
      rw [ht]; omega
    have e2 : ((W64 : Nat) : Int) = 18446744073709551616 := rfl
    have e3 : (2 : Int) ^ 64 = 18446744073709551616 := rfl
    rw [e3] at hr
    push_cast
    rw [e1, e2]
    generalize ((itN x 5 : Nat) : Int) = Y at *
    generalize (x : Int) = X at *
    have e4 : X * Y = 18446744073709551616 * r + 1 := by omega
    rw [Int.add_mul, Int.neg_mul, Int.mul_comm Y X, e4, Int.mul_sub, Int.mul_assoc]
    omega
  exact Nat.mod_eq_zero_of_dvd (Int.natCast_dvd_natCast.1 h7)

theorem two_sub (x : Nat) : IntKind.u64.wrap (2 - (x : Int)) = ((subW 2 x : Nat) : Int) := wrap_sub 2 x
theorem neg_wrap (x : Nat) : IntKind.u64.wrap (-(x : Int)) = ((subW 0 x : Nat) : Int) := by
  have h := wrap_sub 0 x
  rw [← h]
  congr 1
  omega
set_option maxHeartbeats 400000 in
theorem minv_any (x : Nat) (w : World) (hx : x < 18446744073709551616) :
    Calls Try.prog 141 #[.int .u64 x] w fun e w' => e = .returned (.int .u64 (minvN x)) ∧ w = w' := by
  go_enter Try.func141, Try.ntmps141
  go_wp2
  go_loop [3, 4] (fun y i => ∃ k z : Nat, k ≤ 5 ∧ i = .int .i64 k ∧ y = .int .u64 z ∧ z < 18446744073709551616 ∧ Hid (z = itN x k)) (fun _ i => 5 - (intOf i).toNat)
  case atStart => exact ⟨0, x, by omega, rfl, rfl, hx, rfl⟩
  case round =>
    obtain ⟨k, z, hk, rfl, rfl, hz, HZ⟩ := hrel
    by_cases hlt : k < 5
    · have e1 := wrap_mul x z
      have e2 := two_sub (mulW x z)
      have e3 := wrap_mul z (subW 2 (mulW x z))
      have HN : Hid (mulW z (subW 2 (mulW x z)) = itN x (k + 1)) := by show nyN x z = nyN x (itN x k); rw [HZ.out]
      have hlt' := mulW_lt z (subW 2 (mulW x z))
      go_wp2
      go_round
      case rel => exact ⟨k + 1, _, by omega, by go_num, rfl, hlt', HN⟩
      case measure => simp [intOf]; omega
    · obtain rfl : k = 5 := by omega
      have e1 := neg_wrap z
      have HE : Hid (subW 0 z = minvN x) := by show _ = _; rw [HZ.out]; rfl
      go_wp2
      go_ret
      exact ⟨ret_nat HE.out, rfl⟩
end Go.Proofs.Ytpojonfopoobpaa

namespace Go.Proofs.Ytpojonfopoobpaa
open Go.RowKit

/-- The factor of the modulus in a round. -/
def yN (k S : Nat) : Nat := mulW (S % W64) k
/-- What has been reckoned behind i rounds. -/
def stN (k A B M : Nat) : Nat → Nat
  | 0 => 0
  | i + 1 => (stN k A B M i + A * dg W64 B i + M * yN k (stN k A B M i + A * dg W64 B i)) / W64
theorem yN_dvd {k M S : Nat} (hk : (k * M + 1) % W64 = 0) : (S + M * yN k S) % W64 = 0 := by
  unfold yN mulW
  have h1 : (S + M * (S % W64 * k % W64)) % W64 = (S + M * (S * k)) % W64 := by
    rw [Nat.add_mod, Nat.mul_mod, Nat.mod_mod, Nat.mul_mod (S % W64) k, Nat.mod_mod, ← Nat.mul_mod S k, ← Nat.mul_mod, ← Nat.add_mod]
  rw [h1]
  have h2 : S + M * (S * k) = S * (k * M + 1) := by grind
  rw [h2, Nat.mul_mod, hk, Nat.mul_zero, Nat.zero_mod]
theorem stN_lt {k A B M : Nat} (h : 0 < A + M) (i : Nat) : stN k A B M i < A + M := by
  induction i with
  | zero => exact h
  | succ i ih =>
    show (stN k A B M i + A * dg W64 B i + M * yN k (stN k A B M i + A * dg W64 B i)) / W64 < A + M
    rw [Nat.div_lt_iff_lt_mul W64_pos]
    have h1 : A * dg W64 B i ≤ A * (W64 - 1) := Nat.mul_le_mul_left _ (Nat.le_sub_one_of_lt (dg_lt W64_pos _ _))
    have h2 : M * yN k (stN k A B M i + A * dg W64 B i) ≤ M * (W64 - 1) := Nat.mul_le_mul_left _ (Nat.le_sub_one_of_lt (Nat.mod_lt _ W64_pos))
    have h3 : (A + M) * W64 = (A + M) + (A * (W64 - 1) + M * (W64 - 1)) := by
      obtain ⟨t, ht⟩ : ∃ t, W64 = t + 1 := ⟨W64 - 1, by have := W64_pos; omega⟩
      rw [ht, Nat.add_sub_cancel]
      grind
    omega
theorem stN_spec {k A B M : Nat} (hk : (k * M + 1) % W64 = 0) (i : Nat) : ∃ Q, stN k A B M i * W64 ^ i = A * (B % W64 ^ i) + Q * M := by
  induction i with
  | zero => exact ⟨0, by simp [stN, Nat.mod_one]⟩
  | succ i ih =>
    obtain ⟨Q, hQ⟩ := ih
    refine ⟨Q + W64 ^ i * yN k (stN k A B M i + A * dg W64 B i), ?_⟩
    have hd := yN_dvd (S := stN k A B M i + A * dg W64 B i) hk
    have h1 : stN k A B M (i + 1) * W64 = stN k A B M i + A * dg W64 B i + M * yN k (stN k A B M i + A * dg W64 B i) := Nat.div_mul_cancel (Nat.dvd_of_mod_eq_zero hd)
    rw [mod_succ, Nat.pow_succ]
    generalize yN k (stN k A B M i + A * dg W64 B i) = Y at *
    generalize stN k A B M (i + 1) = S1 at *
    generalize stN k A B M i = S at *
    generalize W64 ^ i = u at *
    generalize B % u = b at *
    generalize dg W64 B i = d at *
    generalize W64 = W at *
    have h2 : S1 * (u * W) = (S1 * W) * u := by grind
    rw [h2, h1]
    grind
/-- The result of the Montgomery multiplication. -/
def mmN (n k A B M : Nat) : Nat := redN (stN k A B M n) M
theorem mmN_spec {n k A B M : Nat} (hk : (k * M + 1) % W64 = 0) (hA : A < M) (hB : B < W64 ^ n) : mmN n k A B M < M ∧ mmN n k A B M * W64 ^ n % M = A * B % M := by
  have h1 := stN_lt (k := k) (B := B) (show 0 < A + M by omega) n
  obtain ⟨Q, hQ⟩ := stN_spec (A := A) (B := B) hk n
  rw [Nat.mod_eq_of_lt hB] at hQ
  unfold mmN
  rw [redN_mod (by omega)]
  refine ⟨Nat.mod_lt _ (by omega), ?_⟩
  rw [Nat.mod_mul_mod, hQ, Nat.add_mul_mod_self_right]
theorem mmN_ms {n k A B M : Nat} (hA : A < W64 ^ n) (hM : M < W64 ^ n) (h0 : 0 < M) : msN n (stN k A B M n / W64 ^ n) (stN k A B M n % W64 ^ n) M = mmN n k A B M := by
  have h1 := stN_lt (k := k) (A := A) (B := B) (show 0 < A + M by omega) n
  exact msN_eq hM (by omega)

/-- The window of a round: cells i .. i + n - 1 and the carry are the number S. -/
structure Win (n i S : Nat) (f : Nat → Nat) : Prop where
  lt : ∀ j, f j < W64
  dg : ∀ j, j < n → f (i + j) = dg W64 S j
  zero : ∀ j, i + n ≤ j → f j = 0
theorem Win.num {n i S : Nat} {f : Nat → Nat} (h : Win n i S f) : ofD W64 (fun j => f (i + j)) n = S % W64 ^ n := by
  rw [ofD_congr (g := Proofs.Ytpojonfopoobpaa.dg W64 S) h.dg, ofD_dg]
/-- One round, on the cells: first A * d is added, then M * Y, then the carries. -/
theorem Win.round {n i k A B M : Nat} {f : Nat → Nat} (h : Win n i (stN k A B M i) f) (hn : 1 ≤ n) (hA : A < W64 ^ n) (hM : M < W64 ^ n) (h0 : 0 < M) (hk : (k * M + 1) % W64 = 0) :
    ∃ R1 R2 Y c c1 c2 : Nat, R1 = amN (fun j => f (i + j)) (Proofs.Ytpojonfopoobpaa.dg W64 A) (Proofs.Ytpojonfopoobpaa.dg W64 B i) n ∧ c = stN k A B M i / W64 ^ n ∧ c1 = R1 / W64 ^ n ∧ Y = mulW (Proofs.Ytpojonfopoobpaa.dg W64 R1 0) k
      ∧ R2 = amN (fun j => if j < n then Proofs.Ytpojonfopoobpaa.dg W64 R1 j else 0) (Proofs.Ytpojonfopoobpaa.dg W64 M) Y n ∧ c2 = R2 / W64 ^ n ∧ c1 < W64 ∧ c2 < W64
      ∧ carW c1 c2 c = stN k A B M (i + 1) / W64 ^ n
      ∧ Win n (i + 1) (stN k A B M (i + 1)) (fun j => if j = n + i then sumW c1 c2 c else if i ≤ j ∧ j < i + n then Proofs.Ytpojonfopoobpaa.dg W64 R2 (j - i) else f j) := by
  obtain ⟨m, rfl⟩ : ∃ m, n = m + 1 := ⟨n - 1, by omega⟩
  obtain ⟨S, hS⟩ : ∃ S, S = stN k A B M i := ⟨_, rfl⟩
  obtain ⟨d, hd⟩ : ∃ d, d = Proofs.Ytpojonfopoobpaa.dg W64 B i := ⟨_, rfl⟩
  have hdl : d < W64 := by rw [hd]; exact limb_lt _ _
  have hst : stN k A B M (i + 1) = (S + A * d + M * yN k (S + A * d)) / W64 := by rw [hS, hd]; rfl
  have hSlt : S < A + M := by rw [hS]; exact stN_lt (by omega) i
  have hdv := yN_dvd (S := S + A * d) hk
  have hnum := h.num
  rw [← hS] at h hnum ⊢
  rw [← hd]
  have hp : 0 < W64 ^ m := Nat.pow_pos W64_pos
  have hpn : W64 ^ (m + 1) = W64 ^ m * W64 := Nat.pow_succ ..
  have hpp : 0 < W64 ^ (m + 1) := Nat.pow_pos W64_pos
  obtain ⟨R1, hR1⟩ : ∃ R1, R1 = amN (fun j => f (i + j)) (Proofs.Ytpojonfopoobpaa.dg W64 A) d (m + 1) := ⟨_, rfl⟩
  have eR1 : R1 = S % W64 ^ (m + 1) + A * d := by rw [hR1]; unfold amN; rw [hnum, ofD_dg_of_lt hA]
  have hc1 : R1 / W64 ^ (m + 1) < W64 := by
    rw [hR1]
    exact amN_carry_lt (fun j _ => h.lt _) (fun j _ => limb_lt _ _) hdl
  have hmod : (S + A * d) % W64 = R1 % W64 := by
    have e : S + A * d = R1 + W64 * (W64 ^ m * (S / W64 ^ (m + 1))) := by
      have := Nat.div_add_mod S (W64 ^ (m + 1))
      rw [eR1, ← Nat.mul_assoc, Nat.mul_comm W64, ← hpn]
      omega
    rw [e, Nat.add_mul_mod_self_left]
  have hY : yN k (S + A * d) = mulW (Proofs.Ytpojonfopoobpaa.dg W64 R1 0) k := by unfold yN; rw [hmod, dg_zero]
  obtain ⟨Y, hYY⟩ : ∃ Y, Y = mulW (Proofs.Ytpojonfopoobpaa.dg W64 R1 0) k := ⟨_, rfl⟩
  have hYl : Y < W64 := by rw [hYY]; exact mulW_lt _ _
  rw [hY, ← hYY] at hst hdv
  obtain ⟨R2, hR2⟩ : ∃ R2, R2 = amN (fun j => if j < m + 1 then Proofs.Ytpojonfopoobpaa.dg W64 R1 j else 0) (Proofs.Ytpojonfopoobpaa.dg W64 M) Y (m + 1) := ⟨_, rfl⟩
  have hc2 : R2 / W64 ^ (m + 1) < W64 := by
    rw [hR2]
    exact amN_carry_lt (fun j hj => by rw [if_pos hj]; exact limb_lt _ _) (fun j _ => limb_lt _ _) hYl
  have eR2 : R2 = R1 % W64 ^ (m + 1) + M * Y := by
    rw [hR2]
    unfold amN
    rw [ofD_dg_of_lt hM, ofD_congr (g := Proofs.Ytpojonfopoobpaa.dg W64 R1) (fun j hj => by rw [if_pos hj]), ofD_dg]
  refine ⟨R1, R2, Y, _, _, _, hR1, rfl, rfl, hYY, hR2, rfl, hc1, hc2, ?_⟩
  have d1 := Nat.div_add_mod S (W64 ^ (m + 1))
  have d2 := Nat.div_add_mod R1 (W64 ^ (m + 1))
  have d3 := Nat.div_add_mod R2 (W64 ^ (m + 1))
  have hZ2 := Nat.mod_lt R2 hpp
  have hcar : carW (R1 / W64 ^ (m + 1)) (R2 / W64 ^ (m + 1)) (S / W64 ^ (m + 1)) * W64 + sumW (R1 / W64 ^ (m + 1)) (R2 / W64 ^ (m + 1)) (S / W64 ^ (m + 1)) = R1 / W64 ^ (m + 1) + R2 / W64 ^ (m + 1) + S / W64 ^ (m + 1) := by
    unfold carW sumW
    rw [Nat.mul_comm]
    exact Nat.div_add_mod _ _
  have hsl : sumW (R1 / W64 ^ (m + 1)) (R2 / W64 ^ (m + 1)) (S / W64 ^ (m + 1)) < W64 := sumW_lt _ _ _
  have hsum : S + A * d + M * Y = R2 % W64 ^ (m + 1) + W64 * (W64 ^ m * (R1 / W64 ^ (m + 1) + R2 / W64 ^ (m + 1) + S / W64 ^ (m + 1))) := by
    rw [← Nat.mul_assoc, Nat.mul_comm W64, ← hpn, Nat.mul_add, Nat.mul_add]
    omega
  have hZd : R2 % W64 ^ (m + 1) % W64 = 0 := by
    rw [hsum, Nat.add_mul_mod_self_left] at hdv
    exact hdv
  have hst2 : stN k A B M (i + 1) = R2 % W64 ^ (m + 1) / W64 + W64 ^ m * (R1 / W64 ^ (m + 1) + R2 / W64 ^ (m + 1) + S / W64 ^ (m + 1)) := by
    rw [hst, hsum, Nat.add_mul_div_left _ _ W64_pos]
  have hlow : R2 % W64 ^ (m + 1) / W64 < W64 ^ m := by
    rw [Nat.div_lt_iff_lt_mul W64_pos, ← hpn]; exact hZ2
  have hdig : ∀ j, j < m → Proofs.Ytpojonfopoobpaa.dg W64 (R2 % W64 ^ (m + 1) / W64) j = Proofs.Ytpojonfopoobpaa.dg W64 R2 (j + 1) := by
    intro j hj
    have e := dg_div W64 (R2 % W64 ^ (m + 1)) 1 j
    rw [Nat.pow_one] at e
    rw [e, dg_mod_lt W64_pos (by omega), Nat.add_comm]
  rw [← hcar] at hst2
  generalize hcw : carW (R1 / W64 ^ (m + 1)) (R2 / W64 ^ (m + 1)) (S / W64 ^ (m + 1)) = cw at *
  generalize hsw : sumW (R1 / W64 ^ (m + 1)) (R2 / W64 ^ (m + 1)) (S / W64 ^ (m + 1)) = sw at *
  generalize hlo : R2 % W64 ^ (m + 1) / W64 = lo at *
  have hst3 : stN k A B M (i + 1) = lo + W64 ^ m * sw + W64 ^ (m + 1) * cw := by
    rw [hst2, hpn]; grind
  have hlo2 : lo + W64 ^ m * sw < W64 ^ (m + 1) := by
    have : W64 ^ m * (sw + 1) ≤ W64 ^ m * W64 := Nat.mul_le_mul_left _ hsl
    rw [Nat.mul_add, Nat.mul_one] at this
    rw [hpn]
    omega
  refine ⟨?_, ?_, ?_, ?_⟩
  · rw [hst3, Nat.add_mul_div_left _ _ hpp, Nat.div_eq_of_lt hlo2, Nat.zero_add]
  · intro j
    by_cases e : j = m + 1 + i
    · simp only [if_pos e]; exact hsl
    · simp only [if_neg e]
      by_cases e2 : i ≤ j ∧ j < i + (m + 1)
      · rw [if_pos e2]; exact limb_lt _ _
      · rw [if_neg e2]; exact h.lt j
  · intro j hj
    have e0 : Proofs.Ytpojonfopoobpaa.dg W64 (stN k A B M (i + 1)) j = Proofs.Ytpojonfopoobpaa.dg W64 (lo + W64 ^ m * sw) j := by
      rw [hst3, ← dg_mod_lt W64_pos hj, Nat.add_mul_mod_self_left, dg_mod_lt W64_pos hj]
    rw [e0]
    by_cases e : j = m
    · subst e
      simp only [if_pos (show i + 1 + j = j + 1 + i by omega)]
      unfold Proofs.Ytpojonfopoobpaa.dg
      rw [Nat.add_mul_div_left _ _ hp, Nat.div_eq_of_lt hlow, Nat.zero_add, Nat.mod_eq_of_lt hsl]
    · simp only [if_neg (show ¬ i + 1 + j = m + 1 + i by omega), if_pos (show i ≤ i + 1 + j ∧ i + 1 + j < i + (m + 1) by omega)]
      rw [← dg_mod_lt W64_pos (show j < m by omega), Nat.add_mul_mod_self_left, dg_mod_lt W64_pos (show j < m by omega), hdig j (by omega)]
      congr 1
      omega
  · intro j hj
    simp only [if_neg (show ¬ j = m + 1 + i by omega), if_neg (show ¬ (i ≤ j ∧ j < i + (m + 1)) by omega)]
    exact h.zero j (by omega)
end Go.Proofs.Ytpojonfopoobpaa

namespace Go.Proofs.Ytpojonfopoobpaa
open Go.RowKit

theorem run_copy_ints {P : Program} {w : World} (ty dT sT elem : TypeId) (hu : P.underlying dT = some (.slice elem)) (hsz : (P.info? elem).map (·.size) = some 1)
    (k : IntKind) (b dn dc : Nat) (f : Nat → Nat) (hown : Own k w b dn f)
    (ax : Option Addr) (m cx : Nat) (g : Nat → Nat) (hg : Rd k w ax m g) :
    ∃ w', (Builtin.copy_ #[dT, sT] ty #[.slice (some ⟨b, 0, none⟩) dn dc, .slice ax m cx]).run P w = .ok (goInt (Nat.min m dn)) w' ∧ Own k w' b dn (fun i => if i < m then g i else f i) ∧ (∀ i, dn ≤ i → w'.cell? ⟨b, i, none⟩ = w.cell? ⟨b, i, none⟩) ∧ (∀ x, w'.frozen? x = w.frozen? x) ∧ Upd (fun x => x = b) w w' := by
  by_cases h0 : Nat.min m dn = 0
  · refine ⟨w, ?_, hown.congr (fun i hi => ?_), fun _ _ => rfl, fun _ => rfl, .refl _ _⟩
    · rw [h0]; exact run_copy_none w dT sT ty elem _ _ dn dc m cx hu hsz h0
    · have : m = 0 := by
        have h1 : min m dn = 0 := h0
        omega
      rw [if_neg (by omega)]
  · have hm : 0 < m := by
      rcases Nat.eq_zero_or_pos m with h1 | h1
      · exact absurd (show Nat.min m dn = 0 by rw [h1]; exact Nat.zero_min dn) h0
      · exact h1
    obtain ⟨bx, off, rfl, hc⟩ := hg.open hm
    have hr := run_copy_cells (P := P) w dT sT ty elem b 0 dn dc ⟨bx, off, none⟩ m cx ((List.range (Nat.min m dn)).map fun i => Value.int k (g i)) hu hsz (by simp)
      (fun j v hj => by
        have hjm : j < Nat.min m dn := by
          have := (List.getElem?_eq_some_iff.1 hj).1
          simpa using this
        have hjm' : j < m := Nat.lt_of_lt_of_le hjm (Nat.min_le_left m dn)
        rw [Addr.add_mk, hc j hjm']
        simpa [hjm] using hj)
      (fun j hj => by
        rw [Nat.zero_add, hown.cell j (Nat.lt_of_lt_of_le (by simpa using hj) (Nat.min_le_right m dn))]; rfl)
      (fun j hj => by rw [Nat.zero_add]; exact hown.free j (Nat.lt_of_lt_of_le (by simpa using hj) (Nat.min_le_right m dn)))
      (fun u hu => by obtain ⟨j, _, rfl⟩ := List.mem_map.1 hu; rfl)
    rw [List.length_map, List.length_range] at hr
    refine ⟨_, hr, (own_setCells hown (Nat.min_le_right m dn)).congr (fun i hi => ?_), fun i hi => ?_, fun x => World.frozen?_setCells _ _ _ _ _, Upd.setCells (S := fun x => x = b) b (fun _ => rfl) _ 0 w (.refl _ _)⟩
    rotate_left
    · refine World.cell?_setCells_out b _ 0 w _ (fun _ _ => ?_)
      right
      simp only [List.length_map, List.length_range, Nat.zero_add]
      exact Nat.le_trans (Nat.min_le_right m dn) hi
    have : (i < Nat.min m dn) ↔ i < m := by
      have e : Nat.min m dn = min m dn := rfl
      rw [e]; omega
    by_cases h' : i < m
    · rw [if_pos h', if_pos (this.2 h')]
    · rw [if_neg h', if_neg (fun h'' => h' (this.1 h''))]

end Go.Proofs.Ytpojonfopoobpaa
