/-
  Contracts of the functions of math/bits that the package calls: Len64, LeadingZeros64, Add, Sub.
  (The walk of Len64 follows the kit's worked proof of the same function.)
-/
import Derived.Test.YtmbghmjllipbhaaNatA
import Derived.Lib.BitFns
import Derived.Laws.Externs
namespace Go.Proofs.Ytmbghmjllipbhaa
open Go.RowKit

theorem lib_blen (k : Nat) : ∀ n, n < 2 ^ k → k ≤ 64 → Lib.bitLen n = blen n := by
  induction k with
  | zero =>
    intro n h _
    obtain rfl : n = 0 := by simpa using h
    rfl
  | succ k ih =>
    intro n h hk
    by_cases h0 : n = 0
    · subst h0; rfl
    · rw [Lib.bitLen_half n h0 (Nat.lt_of_lt_of_le h (Nat.pow_le_pow_right (by omega) hk)), blen_half n h0, ih (n / 2) (by rw [Nat.pow_succ] at h; omega) (by omega)]
      omega

theorem blen_shift {x k : Nat} (h : 2 ^ k ≤ x) : blen x = k + blen (x / 2 ^ k) := by
  have hp : 0 < 2 ^ k := Nat.pow_pos (by omega)
  have h1 : x / 2 ^ k ≠ 0 := by
    have := Nat.div_pos h hp
    omega
  have h2 := blen_add_lt (a := x / 2 ^ k) (c := x % 2 ^ k) (k := k) h1 (Nat.mod_lt _ hp)
  rw [Nat.mul_comm, Nat.div_add_mod] at h2
  omega
theorem len8_blen (m : Nat) (h : m ≤ 255) : ∃ L : Nat, Lib.len8 (m : Int) = (L : Int) ∧ L ≤ 8 ∧ Hid (L = blen m) := by
  refine ⟨blen m, ?_, (blen_le_iff 8 m).2 (by omega), rfl⟩
  have h1 := Lib.len8_of (m : Int) (by omega) (by omega)
  rw [Int.toNat_natCast, lib_blen 8 m (by omega) (by omega)] at h1
  exact h1
set_option maxHeartbeats 1000000 in
set_option maxRecDepth 100000 in
theorem len64_111 (x : Nat) (w : World) (hx : x < 18446744073709551616) (h1 : 4294967296 ≤ x) (h2 : 65536 ≤ x / 4294967296) (h3 : 256 ≤ x / 4294967296 / 65536) :
    Calls Try.prog 163 #[.int .u64 x] w fun e w' => e = .returned (.int .i64 (blen x)) ∧ w = w' := by
  obtain ⟨L, hL, hL8, HL⟩ := len8_blen (x / 4294967296 / 65536 / 256) (by omega)
  have HB : Hid (blen x = 56 + blen (x / 4294967296 / 65536 / 256)) := by
    show _ = _
    have h := blen_shift (x := x) (k := 56) (by omega)
    rw [show (2 : Nat) ^ 56 = 72057594037927936 from rfl] at h
    rw [h]
    first | done | (congr 2; omega)
  have g1 : 4294967296 ≤ (x : Int) := by omega
  have g2 : 65536 ≤ (x : Int) / 4294967296 := by omega
  have g3 : 256 ≤ (x : Int) / 4294967296 / 65536 := by omega
  have q1 : (x : Int) / 4294967296 / 65536 / 256 ≤ 255 := by omega
  have q2 : 0 ≤ (x : Int) / 4294967296 / 65536 / 256 := by omega
  have q3 : Lib.len8 ((x : Int) / 4294967296 / 65536 / 256) = (L : Int) := by rw [← hL]; congr 1
  clear hL h1 h2 h3
  go_enter Try.func163, Try.ntmps163
  go_wp2
  go_ret
  exact ⟨ret_int (by rw [HB.out, ← HL.out]; omega), rfl⟩
set_option maxHeartbeats 1000000 in
set_option maxRecDepth 100000 in
theorem len64_110 (x : Nat) (w : World) (hx : x < 18446744073709551616) (h1 : 4294967296 ≤ x) (h2 : 65536 ≤ x / 4294967296) (h3 : x / 4294967296 / 65536 < 256) :
    Calls Try.prog 163 #[.int .u64 x] w fun e w' => e = .returned (.int .i64 (blen x)) ∧ w = w' := by
  obtain ⟨L, hL, hL8, HL⟩ := len8_blen (x / 4294967296 / 65536) (by omega)
  have HB : Hid (blen x = 48 + blen (x / 4294967296 / 65536)) := by
    show _ = _
    have h := blen_shift (x := x) (k := 48) (by omega)
    rw [show (2 : Nat) ^ 48 = 281474976710656 from rfl] at h
    rw [h]
    first | done | (congr 2; omega)
  have g1 : 4294967296 ≤ (x : Int) := by omega
  have g2 : 65536 ≤ (x : Int) / 4294967296 := by omega
  have g3 : decide (256 ≤ (x : Int) / 4294967296 / 65536) = false := by simp; omega
  have q1 : (x : Int) / 4294967296 / 65536 ≤ 255 := by omega
  have q2 : 0 ≤ (x : Int) / 4294967296 / 65536 := by omega
  have q3 : Lib.len8 ((x : Int) / 4294967296 / 65536) = (L : Int) := by rw [← hL]; congr 1
  clear hL h1 h2 h3
  go_enter Try.func163, Try.ntmps163
  go_wp2
  go_ret
  exact ⟨ret_int (by rw [HB.out, ← HL.out]; omega), rfl⟩
set_option maxHeartbeats 1000000 in
set_option maxRecDepth 100000 in
theorem len64_101 (x : Nat) (w : World) (hx : x < 18446744073709551616) (h1 : 4294967296 ≤ x) (h2 : x / 4294967296 < 65536) (h3 : 256 ≤ x / 4294967296) :
    Calls Try.prog 163 #[.int .u64 x] w fun e w' => e = .returned (.int .i64 (blen x)) ∧ w = w' := by
  obtain ⟨L, hL, hL8, HL⟩ := len8_blen (x / 4294967296 / 256) (by omega)
  have HB : Hid (blen x = 40 + blen (x / 4294967296 / 256)) := by
    show _ = _
    have h := blen_shift (x := x) (k := 40) (by omega)
    rw [show (2 : Nat) ^ 40 = 1099511627776 from rfl] at h
    rw [h]
    first | done | (congr 2; omega)
  have g1 : 4294967296 ≤ (x : Int) := by omega
  have g2 : decide (65536 ≤ (x : Int) / 4294967296) = false := by simp; omega
  have g3 : 256 ≤ (x : Int) / 4294967296 := by omega
  have q1 : (x : Int) / 4294967296 / 256 ≤ 255 := by omega
  have q2 : 0 ≤ (x : Int) / 4294967296 / 256 := by omega
  have q3 : Lib.len8 ((x : Int) / 4294967296 / 256) = (L : Int) := by rw [← hL]; congr 1
  clear hL h1 h2 h3
  go_enter Try.func163, Try.ntmps163
  go_wp2
  go_ret
  exact ⟨ret_int (by rw [HB.out, ← HL.out]; omega), rfl⟩
set_option maxHeartbeats 1000000 in
set_option maxRecDepth 100000 in
theorem len64_100 (x : Nat) (w : World) (hx : x < 18446744073709551616) (h1 : 4294967296 ≤ x) (_h2 : x / 4294967296 < 65536) (h3 : x / 4294967296 < 256) :
    Calls Try.prog 163 #[.int .u64 x] w fun e w' => e = .returned (.int .i64 (blen x)) ∧ w = w' := by
  obtain ⟨L, hL, hL8, HL⟩ := len8_blen (x / 4294967296) (by omega)
  have HB : Hid (blen x = 32 + blen (x / 4294967296)) := by
    show _ = _
    have h := blen_shift (x := x) (k := 32) (by omega)
    rw [show (2 : Nat) ^ 32 = 4294967296 from rfl] at h
    rw [h]
    first | done | (congr 2; omega)
  have g1 : 4294967296 ≤ (x : Int) := by omega
  have g2 : decide (65536 ≤ (x : Int) / 4294967296) = false := by simp; omega
  have g3 : decide (256 ≤ (x : Int) / 4294967296) = false := by simp; omega
  have q1 : (x : Int) / 4294967296 ≤ 255 := by omega
  have q2 : 0 ≤ (x : Int) / 4294967296 := by omega
  have q3 : Lib.len8 ((x : Int) / 4294967296) = (L : Int) := by rw [← hL]; congr 1
  clear hL h1 _h2 h3
  go_enter Try.func163, Try.ntmps163
  go_wp2
  go_ret
  exact ⟨ret_int (by rw [HB.out, ← HL.out]; omega), rfl⟩
set_option maxHeartbeats 1000000 in
set_option maxRecDepth 100000 in
theorem len64_011 (x : Nat) (w : World) (hx : x < 18446744073709551616) (h1 : x < 4294967296) (h2 : 65536 ≤ x) (h3 : 256 ≤ x / 65536) :
    Calls Try.prog 163 #[.int .u64 x] w fun e w' => e = .returned (.int .i64 (blen x)) ∧ w = w' := by
  obtain ⟨L, hL, hL8, HL⟩ := len8_blen (x / 65536 / 256) (by omega)
  have HB : Hid (blen x = 24 + blen (x / 65536 / 256)) := by
    show _ = _
    have h := blen_shift (x := x) (k := 24) (by omega)
    rw [show (2 : Nat) ^ 24 = 16777216 from rfl] at h
    rw [h]
    first | done | (congr 2; omega)
  have g1 : decide (4294967296 ≤ (x : Int)) = false := by simp; omega
  have g2 : 65536 ≤ (x : Int) := by omega
  have g3 : 256 ≤ (x : Int) / 65536 := by omega
  have q1 : (x : Int) / 65536 / 256 ≤ 255 := by omega
  have q2 : 0 ≤ (x : Int) / 65536 / 256 := by omega
  have q3 : Lib.len8 ((x : Int) / 65536 / 256) = (L : Int) := by rw [← hL]; congr 1
  clear hL h1 h2 h3
  go_enter Try.func163, Try.ntmps163
  go_wp2
  go_ret
  exact ⟨ret_int (by rw [HB.out, ← HL.out]; omega), rfl⟩
set_option maxHeartbeats 1000000 in
set_option maxRecDepth 100000 in
theorem len64_010 (x : Nat) (w : World) (hx : x < 18446744073709551616) (h1 : x < 4294967296) (h2 : 65536 ≤ x) (h3 : x / 65536 < 256) :
    Calls Try.prog 163 #[.int .u64 x] w fun e w' => e = .returned (.int .i64 (blen x)) ∧ w = w' := by
  obtain ⟨L, hL, hL8, HL⟩ := len8_blen (x / 65536) (by omega)
  have HB : Hid (blen x = 16 + blen (x / 65536)) := by
    show _ = _
    have h := blen_shift (x := x) (k := 16) (by omega)
    rw [show (2 : Nat) ^ 16 = 65536 from rfl] at h
    rw [h]
    first | done | (congr 2; omega)
  have g1 : decide (4294967296 ≤ (x : Int)) = false := by simp; omega
  have g2 : 65536 ≤ (x : Int) := by omega
  have g3 : decide (256 ≤ (x : Int) / 65536) = false := by simp; omega
  have q1 : (x : Int) / 65536 ≤ 255 := by omega
  have q2 : 0 ≤ (x : Int) / 65536 := by omega
  have q3 : Lib.len8 ((x : Int) / 65536) = (L : Int) := by rw [← hL]; congr 1
  clear hL h1 h2 h3
  go_enter Try.func163, Try.ntmps163
  go_wp2
  go_ret
  exact ⟨ret_int (by rw [HB.out, ← HL.out]; omega), rfl⟩
set_option maxHeartbeats 1000000 in
set_option maxRecDepth 100000 in
theorem len64_001 (x : Nat) (w : World) (hx : x < 18446744073709551616) (h1 : x < 4294967296) (h2 : x < 65536) (h3 : 256 ≤ x) :
    Calls Try.prog 163 #[.int .u64 x] w fun e w' => e = .returned (.int .i64 (blen x)) ∧ w = w' := by
  obtain ⟨L, hL, hL8, HL⟩ := len8_blen (x / 256) (by omega)
  have HB : Hid (blen x = 8 + blen (x / 256)) := by
    show _ = _
    have h := blen_shift (x := x) (k := 8) (by omega)
    rw [show (2 : Nat) ^ 8 = 256 from rfl] at h
    rw [h]
    first | done | (congr 2; omega)
  have g1 : decide (4294967296 ≤ (x : Int)) = false := by simp; omega
  have g2 : decide (65536 ≤ (x : Int)) = false := by simp; omega
  have g3 : 256 ≤ (x : Int) := by omega
  have q1 : (x : Int) / 256 ≤ 255 := by omega
  have q2 : 0 ≤ (x : Int) / 256 := by omega
  have q3 : Lib.len8 ((x : Int) / 256) = (L : Int) := by rw [← hL]; congr 1
  clear hL h1 h2 h3
  go_enter Try.func163, Try.ntmps163
  go_wp2
  go_ret
  exact ⟨ret_int (by rw [HB.out, ← HL.out]; omega), rfl⟩
set_option maxHeartbeats 1000000 in
set_option maxRecDepth 100000 in
theorem len64_000 (x : Nat) (w : World) (hx : x < 18446744073709551616) (h1 : x < 4294967296) (h2 : x < 65536) (h3 : x < 256) :
    Calls Try.prog 163 #[.int .u64 x] w fun e w' => e = .returned (.int .i64 (blen x)) ∧ w = w' := by
  obtain ⟨L, hL, hL8, HL⟩ := len8_blen (x) (by omega)
  have HB : Hid (blen x = 0 + blen x) := by show _ = _; omega
  have g1 : decide (4294967296 ≤ (x : Int)) = false := by simp; omega
  have g2 : decide (65536 ≤ (x : Int)) = false := by simp; omega
  have g3 : decide (256 ≤ (x : Int)) = false := by simp; omega
  have q1 : (x : Int) ≤ 255 := by omega
  have q2 : 0 ≤ (x : Int) := by omega
  have q3 : Lib.len8 ((x : Int)) = (L : Int) := hL
  clear hL h1 h2 h3
  go_enter Try.func163, Try.ntmps163
  go_wp2
  go_ret
  exact ⟨ret_int (by rw [HB.out, ← HL.out]; omega), rfl⟩
theorem len64_any (n : Nat) (w : World) (hn : n < 18446744073709551616) :
    Calls Try.prog 163 #[.int .u64 n] w fun e w' => e = .returned (.int .i64 (blen n)) ∧ w = w' := by
  by_cases h1 : 4294967296 ≤ n
  · by_cases h2 : 65536 ≤ n / 4294967296
    · by_cases h3 : 256 ≤ n / 4294967296 / 65536
      · exact len64_111 n w hn (by omega) (by omega) (by omega)
      · exact len64_110 n w hn (by omega) (by omega) (by omega)
    · by_cases h3 : 256 ≤ n / 4294967296
      · exact len64_101 n w hn (by omega) (by omega) (by omega)
      · exact len64_100 n w hn (by omega) (by omega) (by omega)
  · by_cases h2 : 65536 ≤ n
    · by_cases h3 : 256 ≤ n / 65536
      · exact len64_011 n w hn (by omega) (by omega) (by omega)
      · exact len64_010 n w hn (by omega) (by omega) (by omega)
    · by_cases h3 : 256 ≤ n
      · exact len64_001 n w hn (by omega) (by omega) (by omega)
      · exact len64_000 n w hn (by omega) (by omega) (by omega)

/- The sum and the difference of two limbs, and what is carried. -/
def sumW (x y c : Nat) : Nat := (x + y + c) % W64
def carW (x y c : Nat) : Nat := (x + y + c) / W64
def difW (x y b : Nat) : Nat := (x + W64 - y - b) % W64
def borW (x y b : Nat) : Nat := if x < y + b then 1 else 0
theorem sumW_lt (x y c : Nat) : sumW x y c < 18446744073709551616 := Nat.mod_lt _ W64_pos
theorem difW_lt (x y c : Nat) : difW x y c < 18446744073709551616 := Nat.mod_lt _ W64_pos
theorem carW_le {x y c : Nat} (hx : x < 18446744073709551616) (hy : y < 18446744073709551616) (hc : c ≤ 1) : carW x y c ≤ 1 := by
  unfold carW W64; omega
theorem borW_le (x y b : Nat) : borW x y b ≤ 1 := by unfold borW; split <;> omega

theorem run_add64 (x y c : Nat) (hc : c ≤ 1) (w : World) :
    (callFunc 165 #[.int .u64 x, .int .u64 y, .int .u64 c]).run Try.prog w = .ok (.value (.tuple #[.int .u64 (sumW x y c), .int .u64 (carW x y c)])) w := by
  rw [run_callFunc_extern Try.func165 (by kernel_rfl) (by kernel_rfl) (by kernel_rfl) (e := fun args => do
    let (x, y, c) ← Extern.MathBitsCarry.three "Add64" args
    pure (Extern.MathBitsCarry.pair ((x + y + c) % Extern.MathBitsCarry.m64) ((x + y + c) / Extern.MathBitsCarry.m64))) (by kernel_rfl)]
  have : c = 0 ∨ c = 1 := by omega
  rcases this with rfl | rfl <;> rfl

set_option maxHeartbeats 400000 in
theorem bitsAdd_any (x y c : Nat) (w : World) (hc : c ≤ 1) (hx : x < 18446744073709551616) (hy : y < 18446744073709551616) :
    Calls Try.prog 154 #[.int .u64 x, .int .u64 y, .int .u64 c] w fun e w' => e = .returned (.tuple #[.int .u64 (sumW x y c), .int .u64 (carW x y c)]) ∧ w = w' := by
  have hrun := run_add64 x y c hc
  have h1 := sumW_lt x y c
  have h2 := carW_le hx hy hc
  go_enter Try.func154, Try.ntmps154
  go_wp2
  go_ret2
  exact ⟨rfl, rfl⟩
theorem run_sub64 (x y b : Nat) (hb : b ≤ 1) (w : World) :
    (callFunc 169 #[.int .u64 x, .int .u64 y, .int .u64 b]).run Try.prog w = .ok (.value (.tuple #[.int .u64 (difW x y b), .int .u64 (borW x y b)])) w := by
  rw [run_callFunc_extern Try.func169 (by kernel_rfl) (by kernel_rfl) (by kernel_rfl) (e := fun args => do
    let (x, y, b) ← Extern.MathBitsCarry.three "Sub64" args
    pure (Extern.MathBitsCarry.pair ((x + Extern.MathBitsCarry.m64 - y - b) % Extern.MathBitsCarry.m64) (if x < y + b then 1 else 0))) (by kernel_rfl)]
  have : b = 0 ∨ b = 1 := by omega
  rcases this with rfl | rfl <;> rfl

set_option maxHeartbeats 400000 in
theorem bitsSub_any (x y b : Nat) (w : World) (hb : b ≤ 1) (_hx : x < 18446744073709551616) (_hy : y < 18446744073709551616) :
    Calls Try.prog 156 #[.int .u64 x, .int .u64 y, .int .u64 b] w fun e w' => e = .returned (.tuple #[.int .u64 (difW x y b), .int .u64 (borW x y b)]) ∧ w = w' := by
  have hrun := run_sub64 x y b hb
  have h1 := difW_lt x y b
  have h2 := borW_le x y b
  go_enter Try.func156, Try.ntmps156
  go_wp2
  go_ret2
  exact ⟨rfl, rfl⟩
end Go.Proofs.Ytmbghmjllipbhaa
