/-
  Contracts of the functions of math/bits that the package calls: Len64, LeadingZeros64, Add, Sub.
  (The walk of Len64 follows the kit's worked proof of the same function.)
  Contracts: not, ctEq, ctMask, IsZero, IsOne, IsOdd.
  Contracts: ctMask, Equal, cmpGeq.
-/
import Derived.Test.YtpojonfopoobpaaNatD
import Derived.Lib.BitFns
import Derived.Laws.Externs
import Derived.Deep.QuietTactic
import Derived.BigQuiet
import Derived.Deep.RegionWith
import Derived.Deep.RegionHeld3
namespace Go.Proofs.Ytpojonfopoobpaa
open Go.RowKit

theorem lib_blen (k : Nat) : ∀ n, n < 2 ^ k → k ≤ 64 → Lib.bitLen n = blen n := by
  induction k with
  | zero =>
    intro n h _
    obtain rfl : n = 0 := by simpa using h
    rfl
  | succ k ih =>
    intro n h hk
    by_cases h0 : n = 0
    · subst h0; rfl
    · rw [Lib.bitLen_half n h0 (Nat.lt_of_lt_of_le h (Nat.pow_le_pow_right (by omega) hk)), blen_half n h0, ih (n / 2) (by rw [Nat.pow_succ] at h; omega) (by omega)]
      omega

theorem blen_shift {x k : Nat} (h : 2 ^ k ≤ x) : blen x = k + blen (x / 2 ^ k) := by
  have hp : 0 < 2 ^ k := Nat.pow_pos (by omega)
  have h1 : x / 2 ^ k ≠ 0 := by
    have := Nat.div_pos h hp
    omega
  have h2 := blen_add_lt (a := x / 2 ^ k) (c := x % 2 ^ k) (k := k) h1 (Nat.mod_lt _ hp)
  rw [Nat.mul_comm, Nat.div_add_mod] at h2
  omega
theorem len8_blen (m : Nat) (h : m ≤ 255) : ∃ L : Nat, Lib.len8 (m : Int) = (L : Int) ∧ L ≤ 8 ∧ Hid (L = blen m) := by
  refine ⟨blen m, ?_, (blen_le_iff 8 m).2 (by omega), rfl⟩
  have h1 := Lib.len8_of (m : Int) (by omega) (by omega)
  rw [Int.toNat_natCast, lib_blen 8 m (by omega) (by omega)] at h1
  exact h1
set_option maxHeartbeats 1000000 in
set_option maxRecDepth 100000 in
theorem len64_111 (x : Nat) (w : World) (hx : x < 18446744073709551616) (h1 : 4294967296 ≤ x) (h2 : 65536 ≤ x / 4294967296) (h3 : 256 ≤ x / 4294967296 / 65536) :
    Calls Try.prog 139 #[.int .u64 x] w fun e w' => e = .returned (.int .i64 (blen x)) ∧ w = w' := by
  obtain ⟨L, hL, hL8, HL⟩ := len8_blen (x / 4294967296 / 65536 / 256) (by omega)
  have HB : Hid (blen x = 56 + blen (x / 4294967296 / 65536 / 256)) := by
    show _ = _
    have h := blen_shift (x := x) (k := 56) (by omega)
    rw [show (2 : Nat) ^ 56 = 72057594037927936 from rfl] at h
    rw [h]
    first | done | (congr 2; omega)
  have g1 : 4294967296 ≤ (x : Int) := by omega
  have g2 : 65536 ≤ (x : Int) / 4294967296 := by omega
  have g3 : 256 ≤ (x : Int) / 4294967296 / 65536 := by omega
  have q1 : (x : Int) / 4294967296 / 65536 / 256 ≤ 255 := by omega
  have q2 : 0 ≤ (x : Int) / 4294967296 / 65536 / 256 := by omega
  have q3 : Lib.len8 ((x : Int) / 4294967296 / 65536 / 256) = (L : Int) := by rw [← hL]; congr 1
  clear hL h1 h2 h3
  go_enter Try.func139, Try.ntmps139
  go_wp2
  go_ret
  exact ⟨ret_int (by rw [HB.out, ← HL.out]; omega), rfl⟩
set_option maxHeartbeats 1000000 in
set_option maxRecDepth 100000 in
theorem len64_110 (x : Nat) (w : World) (hx : x < 18446744073709551616) (h1 : 4294967296 ≤ x) (h2 : 65536 ≤ x / 4294967296) (h3 : x / 4294967296 / 65536 < 256) :
    Calls Try.prog 139 #[.int .u64 x] w fun e w' => e = .returned (.int .i64 (blen x)) ∧ w = w' := by
  obtain ⟨L, hL, hL8, HL⟩ := len8_blen (x / 4294967296 / 65536) (by omega)
  have HB : Hid (blen x = 48 + blen (x / 4294967296 / 65536)) := by
    show _ = _
    have h := blen_shift (x := x) (k := 48) (by omega)
    rw [show (2 : Nat) ^ 48 = 281474976710656 from rfl] at h
    rw [h]
    first | done | (congr 2; omega)
  have g1 : 4294967296 ≤ (x : Int) := by omega
  have g2 : 65536 ≤ (x : Int) / 4294967296 := by omega
  have g3 : decide (256 ≤ (x : Int) / 4294967296 / 65536) = false := by simp; omega
  have q1 : (x : Int) / 4294967296 / 65536 ≤ 255 := by omega
  have q2 : 0 ≤ (x : Int) / 4294967296 / 65536 := by omega
  have q3 : Lib.len8 ((x : Int) / 4294967296 / 65536) = (L : Int) := by rw [← hL]; congr 1
  clear hL h1 h2 h3
  go_enter Try.func139, Try.ntmps139
  go_wp2
  go_ret
  exact ⟨ret_int (by rw [HB.out, ← HL.out]; omega), rfl⟩
set_option maxHeartbeats 1000000 in
set_option maxRecDepth 100000 in
theorem len64_101 (x : Nat) (w : World) (hx : x < 18446744073709551616) (h1 : 4294967296 ≤ x) (h2 : x / 4294967296 < 65536) (h3 : 256 ≤ x / 4294967296) :
    Calls Try.prog 139 #[.int .u64 x] w fun e w' => e = .returned (.int .i64 (blen x)) ∧ w = w' := by
  obtain ⟨L, hL, hL8, HL⟩ := len8_blen (x / 4294967296 / 256) (by omega)
  have HB : Hid (blen x = 40 + blen (x / 4294967296 / 256)) := by
    show _ = _
    have h := blen_shift (x := x) (k := 40) (by omega)
    rw [show (2 : Nat) ^ 40 = 1099511627776 from rfl] at h
    rw [h]
    first | done | (congr 2; omega)
  have g1 : 4294967296 ≤ (x : Int) := by omega
  have g2 : decide (65536 ≤ (x : Int) / 4294967296) = false := by simp; omega
  have g3 : 256 ≤ (x : Int) / 4294967296 := by omega
  have q1 : (x : Int) / 4294967296 / 256 ≤ 255 := by omega
  have q2 : 0 ≤ (x : Int) / 4294967296 / 256 := by omega
  have q3 : Lib.len8 ((x : Int) / 4294967296 / 256) = (L : Int) := by rw [← hL]; congr 1
  clear hL h1 h2 h3
  go_enter Try.func139, Try.ntmps139
  go_wp2
  go_ret
  exact ⟨ret_int (by rw [HB.out, ← HL.out]; omega), rfl⟩
set_option maxHeartbeats 1000000 in
set_option maxRecDepth 100000 in
theorem len64_100 (x : Nat) (w : World) (hx : x < 18446744073709551616) (h1 : 4294967296 ≤ x) (_h2 : x / 4294967296 < 65536) (h3 : x / 4294967296 < 256) :
    Calls Try.prog 139 #[.int .u64 x] w fun e w' => e = .returned (.int .i64 (blen x)) ∧ w = w' := by
  obtain ⟨L, hL, hL8, HL⟩ := len8_blen (x / 4294967296) (by omega)
  have HB : Hid (blen x = 32 + blen (x / 4294967296)) := by
    show _ = _
    have h := blen_shift (x := x) (k := 32) (by omega)
    rw [show (2 : Nat) ^ 32 = 4294967296 from rfl] at h
    rw [h]
    first | done | (congr 2; omega)
  have g1 : 4294967296 ≤ (x : Int) := by omega
  have g2 : decide (65536 ≤ (x : Int) / 4294967296) = false := by simp; omega
  have g3 : decide (256 ≤ (x : Int) / 4294967296) = false := by simp; omega
  have q1 : (x : Int) / 4294967296 ≤ 255 := by omega
  have q2 : 0 ≤ (x : Int) / 4294967296 := by omega
  have q3 : Lib.len8 ((x : Int) / 4294967296) = (L : Int) := by rw [← hL]; congr 1
  clear hL h1 _h2 h3
  go_enter Try.func139, Try.ntmps139
  go_wp2
  go_ret
  exact ⟨ret_int (by rw [HB.out, ← HL.out]; omega), rfl⟩
set_option maxHeartbeats 1000000 in
set_option maxRecDepth 100000 in
theorem len64_011 (x : Nat) (w : World) (hx : x < 18446744073709551616) (h1 : x < 4294967296) (h2 : 65536 ≤ x) (h3 : 256 ≤ x / 65536) :
    Calls Try.prog 139 #[.int .u64 x] w fun e w' => e = .returned (.int .i64 (blen x)) ∧ w = w' := by
  obtain ⟨L, hL, hL8, HL⟩ := len8_blen (x / 65536 / 256) (by omega)
  have HB : Hid (blen x = 24 + blen (x / 65536 / 256)) := by
    show _ = _
    have h := blen_shift (x := x) (k := 24) (by omega)
    rw [show (2 : Nat) ^ 24 = 16777216 from rfl] at h
    rw [h]
    first | done | (congr 2; omega)
  have g1 : decide (4294967296 ≤ (x : Int)) = false := by simp; omega
  have g2 : 65536 ≤ (x : Int) := by omega
  have g3 : 256 ≤ (x : Int) / 65536 := by omega
  have q1 : (x : Int) / 65536 / 256 ≤ 255 := by omega
  have q2 : 0 ≤ (x : Int) / 65536 / 256 := by omega
  have q3 : Lib.len8 ((x : Int) / 65536 / 256) = (L : Int) := by rw [← hL]; congr 1
  clear hL h1 h2 h3
  go_enter Try.func139, Try.ntmps139
  go_wp2
  go_ret
  exact ⟨ret_int (by rw [HB.out, ← HL.out]; omega), rfl⟩
set_option maxHeartbeats 1000000 in
set_option maxRecDepth 100000 in
theorem len64_010 (x : Nat) (w : World) (hx : x < 18446744073709551616) (h1 : x < 4294967296) (h2 : 65536 ≤ x) (h3 : x / 65536 < 256) :
    Calls Try.prog 139 #[.int .u64 x] w fun e w' => e = .returned (.int .i64 (blen x)) ∧ w = w' := by
  obtain ⟨L, hL, hL8, HL⟩ := len8_blen (x / 65536) (by omega)
  have HB : Hid (blen x = 16 + blen (x / 65536)) := by
    show _ = _
    have h := blen_shift (x := x) (k := 16) (by omega)
    rw [show (2 : Nat) ^ 16 = 65536 from rfl] at h
    rw [h]
    first | done | (congr 2; omega)
  have g1 : decide (4294967296 ≤ (x : Int)) = false := by simp; omega
  have g2 : 65536 ≤ (x : Int) := by omega
  have g3 : decide (256 ≤ (x : Int) / 65536) = false := by simp; omega
  have q1 : (x : Int) / 65536 ≤ 255 := by omega
  have q2 : 0 ≤ (x : Int) / 65536 := by omega
  have q3 : Lib.len8 ((x : Int) / 65536) = (L : Int) := by rw [← hL]; congr 1
  clear hL h1 h2 h3
  go_enter Try.func139, Try.ntmps139
  go_wp2
  go_ret
  exact ⟨ret_int (by rw [HB.out, ← HL.out]; omega), rfl⟩
set_option maxHeartbeats 1000000 in
set_option maxRecDepth 100000 in
theorem len64_001 (x : Nat) (w : World) (hx : x < 18446744073709551616) (h1 : x < 4294967296) (h2 : x < 65536) (h3 : 256 ≤ x) :
    Calls Try.prog 139 #[.int .u64 x] w fun e w' => e = .returned (.int .i64 (blen x)) ∧ w = w' := by
  obtain ⟨L, hL, hL8, HL⟩ := len8_blen (x / 256) (by omega)
  have HB : Hid (blen x = 8 + blen (x / 256)) := by
    show _ = _
    have h := blen_shift (x := x) (k := 8) (by omega)
    rw [show (2 : Nat) ^ 8 = 256 from rfl] at h
    rw [h]
    first | done | (congr 2; omega)
  have g1 : decide (4294967296 ≤ (x : Int)) = false := by simp; omega
  have g2 : decide (65536 ≤ (x : Int)) = false := by simp; omega
  have g3 : 256 ≤ (x : Int) := by omega
  have q1 : (x : Int) / 256 ≤ 255 := by omega
  have q2 : 0 ≤ (x : Int) / 256 := by omega
  have q3 : Lib.len8 ((x : Int) / 256) = (L : Int) := by rw [← hL]; congr 1
  clear hL h1 h2 h3
  go_enter Try.func139, Try.ntmps139
  go_wp2
  go_ret
  exact ⟨ret_int (by rw [HB.out, ← HL.out]; omega), rfl⟩
set_option maxHeartbeats 1000000 in
set_option maxRecDepth 100000 in
theorem len64_000 (x : Nat) (w : World) (hx : x < 18446744073709551616) (h1 : x < 4294967296) (h2 : x < 65536) (h3 : x < 256) :
    Calls Try.prog 139 #[.int .u64 x] w fun e w' => e = .returned (.int .i64 (blen x)) ∧ w = w' := by
  obtain ⟨L, hL, hL8, HL⟩ := len8_blen (x) (by omega)
  have HB : Hid (blen x = 0 + blen x) := by show _ = _; omega
  have g1 : decide (4294967296 ≤ (x : Int)) = false := by simp; omega
  have g2 : decide (65536 ≤ (x : Int)) = false := by simp; omega
  have g3 : decide (256 ≤ (x : Int)) = false := by simp; omega
  have q1 : (x : Int) ≤ 255 := by omega
  have q2 : 0 ≤ (x : Int) := by omega
  have q3 : Lib.len8 ((x : Int)) = (L : Int) := hL
  clear hL h1 h2 h3
  go_enter Try.func139, Try.ntmps139
  go_wp2
  go_ret
  exact ⟨ret_int (by rw [HB.out, ← HL.out]; omega), rfl⟩
theorem len64_any (n : Nat) (w : World) (hn : n < 18446744073709551616) :
    Calls Try.prog 139 #[.int .u64 n] w fun e w' => e = .returned (.int .i64 (blen n)) ∧ w = w' := by
  by_cases h1 : 4294967296 ≤ n
  · by_cases h2 : 65536 ≤ n / 4294967296
    · by_cases h3 : 256 ≤ n / 4294967296 / 65536
      · exact len64_111 n w hn (by omega) (by omega) (by omega)
      · exact len64_110 n w hn (by omega) (by omega) (by omega)
    · by_cases h3 : 256 ≤ n / 4294967296
      · exact len64_101 n w hn (by omega) (by omega) (by omega)
      · exact len64_100 n w hn (by omega) (by omega) (by omega)
  · by_cases h2 : 65536 ≤ n
    · by_cases h3 : 256 ≤ n / 65536
      · exact len64_011 n w hn (by omega) (by omega) (by omega)
      · exact len64_010 n w hn (by omega) (by omega) (by omega)
    · by_cases h3 : 256 ≤ n
      · exact len64_001 n w hn (by omega) (by omega) (by omega)
      · exact len64_000 n w hn (by omega) (by omega) (by omega)
set_option maxHeartbeats 400000 in
theorem lz64_any (n : Nat) (w : World) (hn : n < 18446744073709551616) :
    Calls Try.prog 145 #[.int .u64 n] w fun e w' => e = .returned (.int .i64 ((64 - blen n : Nat) : Int)) ∧ w = w' := by
  have hb : blen n ≤ 64 := (blen_le_iff 64 n).2 hn
  go_enter Try.func145, Try.ntmps145
  go_wp2_with (go_at_call 139; refine (len64_any _ _ hn).mono ?_; rintro e w' ⟨rfl, rfl⟩)
  go_ret
  exact ⟨ret_int (by omega), rfl⟩

/- The sum and the difference of two limbs, and what is carried. -/
def sumW (x y c : Nat) : Nat := (x + y + c) % W64
def carW (x y c : Nat) : Nat := (x + y + c) / W64
def difW (x y b : Nat) : Nat := (x + W64 - y - b) % W64
def borW (x y b : Nat) : Nat := if x < y + b then 1 else 0
theorem sumW_lt (x y c : Nat) : sumW x y c < 18446744073709551616 := Nat.mod_lt _ W64_pos
theorem difW_lt (x y c : Nat) : difW x y c < 18446744073709551616 := Nat.mod_lt _ W64_pos
theorem carW_le {x y c : Nat} (hx : x < 18446744073709551616) (hy : y < 18446744073709551616) (hc : c ≤ 1) : carW x y c ≤ 1 := by
  unfold carW W64; omega
theorem borW_le (x y b : Nat) : borW x y b ≤ 1 := by unfold borW; split <;> omega

theorem run_add64 (x y c : Nat) (hc : c ≤ 1) (w : World) :
    (callFunc 151 #[.int .u64 x, .int .u64 y, .int .u64 c]).run Try.prog w = .ok (.value (.tuple #[.int .u64 (sumW x y c), .int .u64 (carW x y c)])) w := by
  rw [run_callFunc_extern Try.func151 (by kernel_rfl) (by kernel_rfl) (by kernel_rfl) (e := fun args => do
    let (x, y, c) ← Extern.MathBitsCarry.three "Add64" args
    pure (Extern.MathBitsCarry.pair ((x + y + c) % Extern.MathBitsCarry.m64) ((x + y + c) / Extern.MathBitsCarry.m64))) (by kernel_rfl)]
  have : c = 0 ∨ c = 1 := by omega
  rcases this with rfl | rfl <;> rfl

set_option maxHeartbeats 400000 in
theorem bitsAdd_any (x y c : Nat) (w : World) (hc : c ≤ 1) (hx : x < 18446744073709551616) (hy : y < 18446744073709551616) :
    Calls Try.prog 130 #[.int .u64 x, .int .u64 y, .int .u64 c] w fun e w' => e = .returned (.tuple #[.int .u64 (sumW x y c), .int .u64 (carW x y c)]) ∧ w = w' := by
  have hrun := run_add64 x y c hc
  have h1 := sumW_lt x y c
  have h2 := carW_le hx hy hc
  go_enter Try.func130, Try.ntmps130
  go_wp2
  go_ret2
  exact ⟨rfl, rfl⟩
theorem run_sub64 (x y b : Nat) (hb : b ≤ 1) (w : World) :
    (callFunc 153 #[.int .u64 x, .int .u64 y, .int .u64 b]).run Try.prog w = .ok (.value (.tuple #[.int .u64 (difW x y b), .int .u64 (borW x y b)])) w := by
  rw [run_callFunc_extern Try.func153 (by kernel_rfl) (by kernel_rfl) (by kernel_rfl) (e := fun args => do
    let (x, y, b) ← Extern.MathBitsCarry.three "Sub64" args
    pure (Extern.MathBitsCarry.pair ((x + Extern.MathBitsCarry.m64 - y - b) % Extern.MathBitsCarry.m64) (if x < y + b then 1 else 0))) (by kernel_rfl)]
  have : b = 0 ∨ b = 1 := by omega
  rcases this with rfl | rfl <;> rfl

set_option maxHeartbeats 400000 in
theorem bitsSub_any (x y b : Nat) (w : World) (hb : b ≤ 1) (_hx : x < 18446744073709551616) (_hy : y < 18446744073709551616) :
    Calls Try.prog 133 #[.int .u64 x, .int .u64 y, .int .u64 b] w fun e w' => e = .returned (.tuple #[.int .u64 (difW x y b), .int .u64 (borW x y b)]) ∧ w = w' := by
  have hrun := run_sub64 x y b hb
  have h1 := difW_lt x y b
  have h2 := borW_le x y b
  go_enter Try.func133, Try.ntmps133
  go_wp2
  go_ret2
  exact ⟨rfl, rfl⟩
end Go.Proofs.Ytpojonfopoobpaa

namespace Go.Proofs.Ytpojonfopoobpaa
open Go.RowKit

/-- 1 if two numbers are the same, 0 otherwise. -/
def eqN (x y : Nat) : Nat := if x = y then 1 else 0
theorem eqN_le (x y : Nat) : eqN x y ≤ 1 := by unfold eqN; split <;> omega
def geN (x y : Nat) : Nat := if y ≤ x then 1 else 0
theorem geN_le (x y : Nat) : geN x y ≤ 1 := by unfold geN; split <;> omega

theorem xor_one {c : Nat} (h : c ≤ 1) : bits .xor .u64 1 (c : Int) = ((1 - c : Nat) : Int) := by
  rw [show (1 : Int) = ((1 : Nat) : Int) from rfl, bits_xor]
  have : c = 0 ∨ c = 1 := by omega
  rcases this with rfl | rfl <;> rfl
theorem or_small {c d : Nat} (hc : c ≤ 1) (hd : d ≤ 1) : bits .or .u64 (c : Int) (d : Int) = ((max c d : Nat) : Int) := by
  rw [bits_or]
  have h1 : c = 0 ∨ c = 1 := by omega
  have h2 : d = 0 ∨ d = 1 := by omega
  rcases h1 with rfl | rfl <;> rcases h2 with rfl | rfl <;> rfl
theorem and_small {c d : Nat} (hc : c ≤ 1) (hd : d ≤ 1) : bits .and .u64 (c : Int) (d : Int) = ((c * d : Nat) : Int) := by
  rw [bits_and]
  have h1 : c = 0 ∨ c = 1 := by omega
  have h2 : d = 0 ∨ d = 1 := by omega
  rcases h1 with rfl | rfl <;> rcases h2 with rfl | rfl <;> rfl

set_option maxHeartbeats 400000 in
theorem not_any (c : Nat) (w : World) (hc : c ≤ 1) :
    Calls Try.prog 96 #[.int .u64 c] w fun e w' => e = .returned (.int .u64 (1 - c : Nat)) ∧ w = w' := by
  have h := xor_one hc
  go_enter Try.func96, Try.ntmps96
  go_wp2
  go_ret
  exact ⟨rfl, rfl⟩

theorem bitsSub_zero (x y : Nat) (w : World) (hx : x < 18446744073709551616) (hy : y < 18446744073709551616) :
    Calls Try.prog 133 #[.int .u64 x, .int .u64 y, .int .u64 0] w fun e w' => e = .returned (.tuple #[.int .u64 (difW x y 0), .int .u64 (borW x y 0)]) ∧ w = w' :=
  bitsSub_any x y 0 w (by omega) hx hy

set_option maxHeartbeats 400000 in
theorem ctEq_any (x y : Nat) (w : World) (hx : x < 18446744073709551616) (hy : y < 18446744073709551616) :
    Calls Try.prog 95 #[.int .u64 x, .int .u64 y] w fun e w' => e = .returned (.int .u64 (eqN x y)) ∧ w = w' := by
  have h1 := borW_le x y 0
  have h2 := borW_le y x 0
  have h3 := or_small h1 h2
  have HE : Hid (1 - max (borW x y 0) (borW y x 0) = eqN x y) := by
    show _ = _
    unfold borW eqN
    by_cases e : x = y
    · subst e; simp
    · rw [if_neg e]
      rcases Nat.lt_or_gt_of_ne e with h | h
      · rw [if_pos (show x < y + 0 by omega), if_neg (show ¬ y < x + 0 by omega)]; rfl
      · rw [if_neg (show ¬ x < y + 0 by omega), if_pos (show y < x + 0 by omega)]; rfl
  have h4 : max (borW x y 0) (borW y x 0) ≤ 1 := by omega
  generalize max (borW x y 0) (borW y x 0) = m at *
  have hn := not_any m w h4
  replace hn := Lib.hid hn
  go_enter Try.func95, Try.ntmps95
  go_wp2_with fail
  with_reducible refine (bitsSub_zero x y _ hx hy).mono ?_
  rintro e w1 ⟨rfl, rfl⟩
  go_wp2_with fail
  with_reducible refine (bitsSub_zero y x _ hy hx).mono ?_
  rintro e w1 ⟨rfl, rfl⟩
  go_wp2_with fail
  with_reducible refine hn.out.mono ?_
  rw [HE.out]
  rintro e w1 ⟨rfl, rfl⟩
  go_wp2_with fail
  go_ret
  exact ⟨rfl, rfl⟩

theorem ctEq_zero (x : Nat) (w : World) (hx : x < 18446744073709551616) :
    Calls Try.prog 95 #[.int .u64 x, .int .u64 0] w fun e w' => e = .returned (.int .u64 (eqN x 0)) ∧ w = w' := ctEq_any x 0 w hx (by omega)
theorem ctEq_one (x : Nat) (w : World) (hx : x < 18446744073709551616) :
    Calls Try.prog 95 #[.int .u64 x, .int .u64 1] w fun e w' => e = .returned (.int .u64 (eqN x 1)) ∧ w = w' := ctEq_any x 1 w hx (by omega)

theorem eqN_zero_step (X k : Nat) : eqN (X % W64 ^ k) 0 * eqN (dg W64 X k) 0 = eqN (X % W64 ^ (k + 1)) 0 := by
  have h := mod_succ W64 X k
  have hp : 0 < W64 ^ k := Nat.pow_pos W64_pos
  unfold eqN
  by_cases h1 : X % W64 ^ k = 0
  · by_cases h2 : dg W64 X k = 0
    · rw [if_pos h1, if_pos h2, h, h1, h2]; simp
    · rw [if_neg h2, Nat.mul_zero, if_neg]
      rw [h, h1, Nat.zero_add]
      exact Nat.ne_of_gt (Nat.mul_pos hp (by omega))
  · rw [if_neg h1, Nat.zero_mul, if_neg]
    intro h2
    rw [h] at h2
    exact h1 (Nat.eq_zero_of_add_eq_zero h2).1

set_option maxRecDepth 100000 in
set_option maxHeartbeats 400000 in
theorem isZero_any (p b c n X : Nat) (w : World) (hx : NatAt w p b c n X) :
    Calls Try.prog 134 #[.pointer (some ⟨p, 0, none⟩)] w fun e w' => e = .returned (.int .u64 (eqN X 0)) ∧ w = w' := by
  have hcell := hx.hd
  have hle := hx.le
  have hsm := hx.sm
  go_enter Try.func134, Try.ntmps134
  go_wp2_with fail
  go_loop [5, 6] (fun s i => ∃ k z : Nat, k ≤ n ∧ i = .int .i64 k ∧ s = .int .u64 z ∧ z ≤ 1 ∧ Hid (z = eqN (X % W64 ^ k) 0)) (fun _ i => n - (intOf i).toNat)
  case atStart => exact ⟨0, 1, Nat.zero_le _, rfl, rfl, by omega, by show _ = _; simp [eqN, Nat.mod_one]⟩
  case round =>
    obtain ⟨k, z, hk, rfl, rfl, hz, HZ⟩ := hrel
    by_cases hlt : k < n
    · obtain ⟨d, hd1, hd, HD⟩ := hx.limb hlt
      have ha := and_small hz (eqN_le d 0)
      have HN : Hid (z * eqN d 0 = eqN (X % W64 ^ (k + 1)) 0) := by show _ = _; rw [HZ.out, HD.out]; exact eqN_zero_step X k
      obtain ⟨z', Hz'⟩ : ∃ z', Hid (z' = z * eqN d 0) := ⟨_, rfl⟩
      have hz' : z' ≤ 1 := by rw [Hz'.out, HN.out]; exact eqN_le _ _
      rw [← Hz'.out] at ha
      go_wp2_with (go_at_call 95; with_reducible refine (ctEq_zero d _ hd).mono ?_; rintro e w' ⟨rfl, rfl⟩)
      go_round
      case rel => exact ⟨k + 1, z', by omega, by go_num, rfl, hz', by rw [Hz'.out]; exact HN⟩
      case measure => simp [intOf]; omega
    · obtain rfl : k = n := by omega
      have HE : Hid (z = eqN X 0) := by show _ = _; rw [HZ.out, Nat.mod_eq_of_lt hx.lt]
      go_wp2
      go_ret
      exact ⟨ret_nat HE.out, rfl⟩

theorem eqN_one_step (X k : Nat) (hk : 1 ≤ k) : eqN (X % W64 ^ k) 1 * eqN (dg W64 X k) 0 = eqN (X % W64 ^ (k + 1)) 1 := by
  have h := mod_succ W64 X k
  have hp : W64 ≤ W64 ^ k := by
    obtain ⟨j, rfl⟩ : ∃ j, k = j + 1 := ⟨k - 1, by omega⟩
    rw [Nat.pow_succ]
    exact Nat.le_mul_of_pos_left _ (Nat.pow_pos W64_pos)
  have hW : 1 < W64 := by decide
  unfold eqN
  by_cases h2 : dg W64 X k = 0
  · rw [if_pos h2, Nat.mul_one, h, h2, Nat.mul_zero, Nat.add_zero]
  · rw [if_neg h2, Nat.mul_zero, if_neg]
    have h3 : W64 ^ k * 1 ≤ W64 ^ k * dg W64 X k := Nat.mul_le_mul_left _ (by omega)
    intro h4
    rw [h] at h4
    generalize W64 ^ k * dg W64 X k = q at *
    generalize X % W64 ^ k = r at *
    generalize W64 ^ k = u at *
    omega

set_option maxRecDepth 100000 in
set_option maxHeartbeats 400000 in
theorem isOne_any (p b c n X : Nat) (w : World) (hx : NatAt w p b c n X) :
    Calls Try.prog 70 #[.pointer (some ⟨p, 0, none⟩)] w fun e w' => e = .returned (.int .u64 (eqN X 1)) ∧ w = w' := by
  have hcell := hx.hd
  have hle := hx.le
  have hsm := hx.sm
  by_cases hn : n = 0
  · subst hn
    have hX0 : X = 0 := by have := hx.lt; simpa using this
    subst hX0
    go_enter Try.func70, Try.ntmps70
    go_wp2
    go_ret
    exact ⟨rfl, rfl⟩
  · have hn' : ((n : Int) == 0) = false := by rw [beq_eq_false_iff_ne]; omega
    obtain ⟨d0, hd1, hd, HD⟩ := hx.limb (show 0 < n by omega)
    go_enter Try.func70, Try.ntmps70
    go_wp2_with (go_at_call 95; with_reducible refine (ctEq_one d0 _ hd).mono ?_; rintro e w' ⟨rfl, rfl⟩)
    go_loop [5, 6] (fun s i => ∃ k z : Nat, 1 ≤ k ∧ k ≤ n ∧ i = .int .i64 k ∧ s = .int .u64 z ∧ z ≤ 1 ∧ Hid (z = eqN (X % W64 ^ k) 1)) (fun _ i => n - (intOf i).toNat)
    case atStart => exact ⟨1, eqN d0 1, by omega, by omega, rfl, rfl, eqN_le _ _, by show _ = _; rw [HD.out, dg_zero, Nat.pow_one]⟩
    case round =>
      obtain ⟨k, z, hk1, hk, rfl, rfl, hz, HZ⟩ := hrel
      clear hd1 hd HD
      by_cases hlt : k < n
      · obtain ⟨d, hd1, hd, HD⟩ := hx.limb hlt
        have ha := and_small hz (eqN_le d 0)
        have HN : Hid (z * eqN d 0 = eqN (X % W64 ^ (k + 1)) 1) := by show _ = _; rw [HZ.out, HD.out]; exact eqN_one_step X k hk1
        obtain ⟨z', Hz'⟩ : ∃ z', Hid (z' = z * eqN d 0) := ⟨_, rfl⟩
        have hz' : z' ≤ 1 := by rw [Hz'.out, HN.out]; exact eqN_le _ _
        rw [← Hz'.out] at ha
        go_wp2_with (go_at_call 95; with_reducible refine (ctEq_zero d _ hd).mono ?_; rintro e w' ⟨rfl, rfl⟩)
        go_round
        case rel => exact ⟨k + 1, z', by omega, by omega, by go_num, rfl, hz', by rw [Hz'.out]; exact HN⟩
        case measure => simp [intOf]; omega
      · obtain rfl : k = n := by omega
        have HE : Hid (z = eqN X 1) := by show _ = _; rw [HZ.out, Nat.mod_eq_of_lt hx.lt]
        go_wp2
        go_ret
        exact ⟨ret_nat HE.out, rfl⟩

theorem and_one (d : Nat) : bits .and .u64 (d : Int) 1 = ((d % 2 : Nat) : Int) := by
  rw [show (1 : Int) = ((1 : Nat) : Int) from rfl, bits_and]
  congr 1
  unfold andW
  rw [Nat.and_one_is_mod]
  exact Nat.mod_eq_of_lt (by unfold W64; omega)

set_option maxHeartbeats 400000 in
theorem isOdd_any (p b c n X : Nat) (w : World) (hx : NatAt w p b c n X) :
    Calls Try.prog 135 #[.pointer (some ⟨p, 0, none⟩)] w fun e w' => e = .returned (.int .u64 (X % 2 : Nat)) ∧ w = w' := by
  have hcell := hx.hd
  by_cases hn : n = 0
  · subst hn
    have hX0 : X = 0 := by have := hx.lt; simpa using this
    subst hX0
    go_enter Try.func135, Try.ntmps135
    go_wp2
    go_ret
    exact ⟨rfl, rfl⟩
  · have hn' : ((n : Int) == 0) = false := by rw [beq_eq_false_iff_ne]; omega
    obtain ⟨d, hd1, hd, HD⟩ := hx.limb (show 0 < n by omega)
    have h1 := and_one d
    have HE : Hid (d % 2 = X % 2) := by
      show _ = _
      rw [HD.out, dg_zero]; unfold W64; omega
    obtain ⟨z, Hz⟩ : ∃ z, Hid (z = d % 2) := ⟨_, rfl⟩
    rw [← Hz.out] at h1
    have hn2 : 0 < n := by omega
    go_enter Try.func135, Try.ntmps135
    go_wp2
    go_ret
    exact ⟨ret_nat (by rw [Hz.out, HE.out]), rfl⟩
end Go.Proofs.Ytpojonfopoobpaa

namespace Go.Proofs.Ytpojonfopoobpaa
open Go.RowKit

/-- The carry below digit k of X + Y. -/
def caN (X Y k : Nat) : Nat := (X % W64 ^ k + Y % W64 ^ k) / W64 ^ k
/-- The borrow below digit k of X - Y. -/
def boN (X Y k : Nat) : Nat := if X % W64 ^ k < Y % W64 ^ k then 1 else 0
theorem boN_le (X Y k : Nat) : boN X Y k ≤ 1 := by unfold boN; split <;> omega
theorem caN_le (X Y k : Nat) : caN X Y k ≤ 1 := by
  have hp : 0 < W64 ^ k := Nat.pow_pos W64_pos
  have h1 := Nat.mod_lt X hp
  have h2 := Nat.mod_lt Y hp
  have : caN X Y k < 2 := (Nat.div_lt_iff_lt_mul hp).2 (by omega)
  omega
theorem caN_zero (X Y : Nat) : caN X Y 0 = 0 := by simp [caN, Nat.mod_one]
theorem boN_zero (X Y : Nat) : boN X Y 0 = 0 := by simp [boN, Nat.mod_one]
theorem add_split (X Y k : Nat) : (X % W64 ^ (k + 1) + Y % W64 ^ (k + 1)) / W64 ^ k = dg W64 X k + dg W64 Y k + caN X Y k := by
  have hp : 0 < W64 ^ k := Nat.pow_pos W64_pos
  rw [mod_succ, mod_succ]
  have : X % W64 ^ k + W64 ^ k * dg W64 X k + (Y % W64 ^ k + W64 ^ k * dg W64 Y k) = (X % W64 ^ k + Y % W64 ^ k) + W64 ^ k * (dg W64 X k + dg W64 Y k) := by
    rw [Nat.mul_add]; omega
  rw [this, Nat.add_mul_div_left _ _ hp]
  unfold caN
  omega
theorem add_digit (X Y k : Nat) : dg W64 (X + Y) k = sumW (dg W64 X k) (dg W64 Y k) (caN X Y k) := by
  have h : dg W64 (X + Y) k = dg W64 (X % W64 ^ (k + 1) + Y % W64 ^ (k + 1)) k := by
    rw [← dg_mod_lt W64_pos (Nat.lt_succ_self k), Nat.add_mod, dg_mod_lt W64_pos (Nat.lt_succ_self k)]
  rw [h]
  unfold dg sumW
  rw [add_split]
  rfl
theorem add_carry (X Y k : Nat) : caN X Y (k + 1) = carW (dg W64 X k) (dg W64 Y k) (caN X Y k) := by
  unfold carW
  rw [← add_split, Nat.div_div_eq_div_mul, ← Nat.pow_succ]
  rfl
theorem caN_all {X Y n : Nat} (hX : X < W64 ^ n) (hY : Y < W64 ^ n) : caN X Y n = (X + Y) / W64 ^ n := by
  unfold caN
  rw [Nat.mod_eq_of_lt hX, Nat.mod_eq_of_lt hY]
theorem boN_all {X Y n : Nat} (hX : X < W64 ^ n) (hY : Y < W64 ^ n) : boN X Y n = if X < Y then 1 else 0 := by
  unfold boN
  rw [Nat.mod_eq_of_lt hX, Nat.mod_eq_of_lt hY]
theorem sub_borrow (X Y k : Nat) : boN X Y (k + 1) = borW (dg W64 X k) (dg W64 Y k) (boN X Y k) := by
  have hp : 0 < W64 ^ k := Nat.pow_pos W64_pos
  have h1 := Nat.mod_lt X hp
  have h2 := Nat.mod_lt Y hp
  unfold boN borW
  rw [mod_succ, mod_succ]
  generalize dg W64 X k = a
  generalize dg W64 Y k = d
  generalize X % W64 ^ k = x at *
  generalize Y % W64 ^ k = y at *
  generalize W64 ^ k = u at *
  rcases Nat.lt_trichotomy a d with h | h | h
  · have := Nat.mul_le_mul_left u (show a + 1 ≤ d by omega)
    rw [Nat.mul_add, Nat.mul_one] at this
    rw [if_pos (show x + u * a < y + u * d by omega), if_pos]
    split <;> omega
  · subst h
    by_cases h : x < y
    · rw [if_pos h, if_pos (by omega), if_pos (by omega)]
    · rw [if_neg h, if_neg (by omega), if_neg (by omega)]
  · have := Nat.mul_le_mul_left u (show d + 1 ≤ a by omega)
    rw [Nat.mul_add, Nat.mul_one] at this
    rw [if_neg (show ¬ x + u * a < y + u * d by omega), if_neg]
    split <;> omega
/-- X - Y modulo W64 ^ n. -/
def subN (n X Y : Nat) : Nat := (X + W64 ^ n - Y) % W64 ^ n
theorem subN_lt (n X Y : Nat) : subN n X Y < W64 ^ n := Nat.mod_lt _ (Nat.pow_pos W64_pos)
theorem subN_le {n X Y : Nat} (hX : X < W64 ^ n) (h : Y ≤ X) : subN n X Y = X - Y := by
  unfold subN
  rw [show X + W64 ^ n - Y = (X - Y) + W64 ^ n by omega, Nat.add_mod_right, Nat.mod_eq_of_lt (by omega)]
theorem subN_gt {n X Y : Nat} (hY : Y < W64 ^ n) (h : X < Y) : subN n X Y = X + W64 ^ n - Y := by
  unfold subN
  rw [Nat.mod_eq_of_lt (by omega)]
theorem sub_digit {X Y n k : Nat} (_hX : X < W64 ^ n) (hY : Y < W64 ^ n) (hk : k < n) : dg W64 (subN n X Y) k = difW (dg W64 X k) (dg W64 Y k) (boN X Y k) := by
  unfold subN
  rw [dg_mod_lt W64_pos hk]
  have hp : 0 < W64 ^ k := Nat.pow_pos W64_pos
  obtain ⟨j, rfl⟩ : ∃ j, n = k + (j + 1) := ⟨n - k - 1, by omega⟩
  have hn : W64 ^ (k + (j + 1)) = W64 ^ k * (W64 * W64 ^ j) := by rw [Nat.pow_add, Nat.pow_succ, Nat.mul_comm W64]
  have hq : 0 < W64 ^ j := Nat.pow_pos W64_pos
  rw [hn] at hY ⊢
  have h1 := Nat.mod_lt X hp
  have h2 := Nat.mod_lt Y hp
  have e1 := Nat.div_add_mod X (W64 ^ k)
  have e2 := Nat.div_add_mod Y (W64 ^ k)
  have hY1 : Y / W64 ^ k < W64 * W64 ^ j := (Nat.div_lt_iff_lt_mul hp).2 (by rw [Nat.mul_comm]; exact hY)
  unfold dg difW boN
  generalize W64 ^ j = q at *
  generalize X % W64 ^ k = x at *
  generalize Y % W64 ^ k = y at *
  generalize X / W64 ^ k = X1 at *
  generalize Y / W64 ^ k = Y1 at *
  generalize W64 ^ k = u at *
  have hb : ∀ b : Nat, (b = if x < y then 1 else 0) → (X + u * (W64 * q) - Y) / u = X1 + W64 * q - Y1 - b := by
    intro b hb
    have hd : X + u * (W64 * q) - Y = u * (X1 + W64 * q - Y1) + x - y := by
      rw [Nat.mul_sub, Nat.mul_add]
      have : u * Y1 ≤ u * (W64 * q) := Nat.mul_le_mul_left _ (Nat.le_of_lt hY1)
      omega
    rw [hd]
    obtain ⟨t, ht⟩ : ∃ t, X1 + W64 * q - Y1 = t + 1 := ⟨X1 + W64 * q - Y1 - 1, by omega⟩
    rw [ht]
    by_cases hxy : x < y
    · rw [if_pos hxy] at hb
      subst hb
      rw [Nat.mul_add, Nat.mul_one, Nat.add_sub_cancel]
      rw [show u * t + u + x - y = u * t + (u + x - y) by omega, Nat.mul_add_div hp, Nat.div_eq_of_lt (by omega), Nat.add_zero]
    · rw [if_neg hxy] at hb
      subst hb
      rw [show u * (t + 1) + x - y = u * (t + 1) + (x - y) by omega, Nat.mul_add_div hp, Nat.div_eq_of_lt (by omega), Nat.add_zero]
      rfl
  rw [hb _ rfl]
  have hble : (if x < y then 1 else 0 : Nat) ≤ 1 := by split <;> omega
  generalize (if x < y then 1 else 0 : Nat) = b at *
  have d1 := Nat.div_add_mod X1 W64
  have d2 := Nat.div_add_mod Y1 W64
  have d3 := Nat.mod_lt Y1 W64_pos
  have hY2 : Y1 / W64 < q := (Nat.div_lt_iff_lt_mul W64_pos).2 (by rw [Nat.mul_comm]; exact hY1)
  generalize X1 % W64 = a at *
  generalize Y1 % W64 = d at *
  generalize X1 / W64 = X2 at *
  generalize Y1 / W64 = Y2 at *
  have h3 : W64 * (Y2 + 1) ≤ W64 * q := Nat.mul_le_mul_left _ (by omega)
  have : X1 + W64 * q - Y1 - b = W64 * (X2 + (q - (Y2 + 1))) + (a + W64 - d - b) := by
    rw [Nat.mul_add, Nat.mul_sub]
    rw [Nat.mul_add, Nat.mul_one] at h3 ⊢
    omega
  rw [this, Nat.mul_add_mod]

theorem ge_of_bo {X Y n : Nat} (hX : X < W64 ^ n) (hY : Y < W64 ^ n) : 1 - boN X Y n = geN X Y := by
  rw [boN_all hX hY]
  unfold geN
  by_cases h : X < Y
  · rw [if_pos h, if_neg (by omega)]
  · rw [if_neg h, if_pos (by omega)]

/-- A contract of a callee that draws nothing, in the form that the quiet walk asks. -/
theorem quiet_same {P : Program} {f : FuncId} {args : Array Value} {w : World} {n : Nat} {v : Value}
    (h : Calls P f args (w.drewN n) fun e w' => e = .returned v ∧ w.drewN n = w') : Calls P f args (w.drewN n) fun e w'' => e = .returned v ∧ ∃ m, w'' = w.drewN m :=
  h.mono fun _ _ ⟨he, hm⟩ => ⟨he, n, hm.symm⟩

theorem eqN_step (X Y k : Nat) : eqN (X % W64 ^ k) (Y % W64 ^ k) * eqN (dg W64 X k) (dg W64 Y k) = eqN (X % W64 ^ (k + 1)) (Y % W64 ^ (k + 1)) := by
  have hp : 0 < W64 ^ k := Nat.pow_pos W64_pos
  have h1 := Nat.mod_lt X hp
  have h2 := Nat.mod_lt Y hp
  unfold eqN
  rw [mod_succ, mod_succ]
  generalize dg W64 X k = a
  generalize dg W64 Y k = d
  generalize X % W64 ^ k = x at *
  generalize Y % W64 ^ k = y at *
  generalize W64 ^ k = u at *
  by_cases hxy : x = y
  · subst hxy
    by_cases had : a = d
    · subst had; simp
    · rw [if_neg had, Nat.mul_zero, if_neg]
      intro h
      exact had (Nat.eq_of_mul_eq_mul_left hp (Nat.add_left_cancel h))
  · rw [if_neg hxy, Nat.zero_mul, if_neg]
    intro h
    have h3 := congrArg (· % u) h
    simp only [Nat.add_mul_mod_self_left] at h3
    rw [Nat.mod_eq_of_lt h1, Nat.mod_eq_of_lt h2] at h3
    exact hxy h3

/-- A limb of a number that is read while the limbs of another one, or of itself, are written. -/
theorem NatAt.limbOf {w wr : World} {q by' cy n Y b : Nat} {f : Nat → Nat} (hy : NatAt w q by' cy n Y) (hw : Wrote w wr b n f) {k : Nat} (hk : k < n) (h : by' = b → f k = dg W64 Y k) :
    ∃ d, wr.cell? ⟨by', k, none⟩ = some (.int .u64 (d : Nat)) ∧ d < 18446744073709551616 ∧ Hid (d = dg W64 Y k) := by
  refine ⟨dg W64 Y k, ?_, limb_lt _ _, rfl⟩
  by_cases e : by' = b
  · rw [← h e, e]; exact hw.own.cell k hk
  · exact hw.upd.cell (p := ⟨by', k, none⟩) e (hy.own.cell k hk)

set_option maxRecDepth 100000 in
set_option maxHeartbeats 1000000 in
theorem cmpGeq_any (p b c n X q b' c' Y : Nat) (w : World) (hx : NatAt w p b c n X) (hy : NatAt w q b' c' n Y) :
    Calls Try.prog 136 #[.pointer (some ⟨p, 0, none⟩), .pointer (some ⟨q, 0, none⟩)] w fun e w' => e = .returned (.int .u64 (geN X Y)) ∧ ∃ k, w' = w.drewN k := by
  have hcell := hx.hd
  have hcell2 := hy.hd
  have hle := hx.le
  have hsm := hx.sm
  have hle2 := hy.le
  have hsm2 := hy.sm
  have HE : Hid (1 - boN X Y n = geN X Y) := ge_of_bo hx.lt hy.lt
  go_enter Try.func136, Try.ntmps136
  go_wp2
  go_loopw [8, 9] (fun s i wr => ∃ k z t : Nat, k ≤ n ∧ i = .int .i64 k ∧ s = .int .u64 z ∧ z ≤ 1 ∧ Hid (z = boN X Y k) ∧ Hid (wr = w.drewN t)) (fun _ i _ => n - (intOf i).toNat)
  case atStart => exact ⟨0, 0, 0, Nat.zero_le _, rfl, rfl, by omega, (boN_zero X Y).symm, rfl⟩
  case round =>
    obtain ⟨k, z, t, hk, rfl, rfl, hz, HZ, HT⟩ := hrel
    by_cases hlt : k < n
    · obtain ⟨d, hd1, hd, HD⟩ := (hx.drewN t).limb hlt
      obtain ⟨d2, hd3, hd2, HD2⟩ := (hy.drewN t).limb hlt
      rw [← HT.out] at hd1 hd3
      have i1 : (k : Int) < (n : Int) := by omega
      have i2 : (0 : Int) ≤ (k : Int) := by omega
      have i3 : ((k : Int)).toNat = k := by omega
      go_wp2_with fail
      go_quiet ((go_at_call 133; exact quiet_same (bitsSub_any d d2 z _ hz hd hd2)))
      rename_i nq
      have HT2 : Hid (wr.drewN nq = w.drewN (t + nq)) := by show _ = _; rw [HT.out, World.drewN_drewN]
      go_wp2
      go_roundw
      case rel => exact ⟨k + 1, borW d d2 z, _, by omega, by go_num, rfl, borW_le _ _ _, by show _ = _; rw [HD.out, HD2.out, HZ.out]; exact (sub_borrow X Y k).symm, HT2⟩
      case measure => simp [intOf]; omega
    · obtain rfl : k = n := by omega
      have hn := not_any z wr hz
      rw [HZ.out, HE.out, ← HZ.out] at hn
      replace hn := Lib.hid hn
      go_wp2_with fail
      with_reducible refine hn.out.mono ?_
      rintro e w' ⟨rfl, rfl⟩
      go_wp2_with fail
      go_ret
      exact ⟨rfl, _, HT.out⟩

end Go.Proofs.Ytpojonfopoobpaa
