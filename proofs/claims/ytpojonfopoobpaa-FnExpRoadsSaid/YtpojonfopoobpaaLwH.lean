/-
  What the ring laws share: BitLen, comparisons by a bool, powers of whole numbers, literals of two bytes, inverses of products.
-/
import Derived.Test.YtpojonfopoobpaaLwIn
import Derived.Test.YtpojonfopoobpaaApp
import Derived.Test.YtpojonfopoobpaaImpD
import Derived.Test.YtpojonfopoobpaaSpecL
import Derived.Test.YtpojonfopoobpaaRing
namespace Go.Proofs.Ytpojonfopoobpaa
open Go.RowKit

theorem iBitLen_bs {a : Option Addr} {n c N : Nat} {w : World} (hn : n ≤ 100000) (h : Bs w a n c N) :
    Calls Try.prog 40 #[.slice a n c] w fun e w' => e = .returned (.int .i64 (blen N)) ∧ Upd0 w w' := by
  obtain ⟨f, h1, h2, rfl⟩ := h
  exact iBitLen_any a n c f w hn h1 h2
theorem sBitLen_bs {a : Option Addr} {n c N : Nat} {w : World} (hn : n ≤ 100000) (h : Bs w a n c N) :
    Calls Try.prog 45 #[.slice a n c] w fun e w' => e = .returned (.int .i64 (blen N)) ∧ Upd0 w w' := by
  obtain ⟨f, h1, h2, rfl⟩ := h
  exact sBitLen_any a n c f w hn h1 h2
theorem zero_b {a : Option Addr} {n c N : Nat} {b : Bool} {w : World} (hn : n ≤ 1048576) (h : Bs w a n c N) (hb : decide (N = 0) = b) : Calls Try.prog 36 #[.slice a n c] w fun e w' => e = .returned (.bool b) ∧ Upd0 w w' :=
  (zero_bs hn h).mono fun _ _ ⟨h1, h2⟩ => ⟨by rw [h1, hb], by rw [h2]; exact .refl _ _⟩
theorem odd_b {a : Option Addr} {n c N : Nat} {b : Bool} {w : World} (hn : n ≤ 1048576) (h : Bs w a n c N) (hb : decide (N % 2 = 1) = b) : Calls Try.prog 28 #[.slice a n c] w fun e w' => e = .returned (.bool b) ∧ Upd0 w w' :=
  (odd_bs hn h).mono fun _ _ ⟨h1, h2⟩ => ⟨by rw [h1, hb], by rw [h2]; exact .refl _ _⟩
theorem same_b {a a' : Option Addr} {n c c' N N' : Nat} {b : Bool} {w : World} (hn : n ≤ 1048576) (h : Bs w a n c N) (h' : Bs w a' n c' N') (hb : decide (N = N') = b) :
    Calls Try.prog 24 #[.slice a n c, .slice a' n c'] w fun e w' => e = .returned (.bool b) ∧ Upd0 w w' :=
  (same_bs hn h h').mono fun _ _ ⟨h1, h2⟩ => ⟨by rw [h1, ← hb]; simp, h2⟩
theorem iExpShort_z {ax am : Option Addr} {nx cx nm cm X E M : Nat} {z : Int} {w : World} (hz : z = ((E : Nat) : Int)) (hnx : 1 < M → nx ≤ nb M) (hE1 : 1 ≤ E) (hE2 : E ≤ 9223372036854775807) (hnm : nm ≤ 4000) (hx : Bs w ax nx cx X) (hm : Bs w am nm cm M) :
    Calls Try.prog 29 #[.slice ax nx cx, .int .i64 z, .slice am nm cm] w (RetOpt w (optN (1 < M ∧ X < M ∧ M % 2 = 1) M (X ^ E % M))) := by
  subst hz
  exact iExpShort_bs hnx hE1 hE2 hnm hx hm
theorem ipow_mul (a : Int) (m n : Nat) : a ^ (m * n) = (a ^ m) ^ n := by
  induction n with
  | zero => simp
  | succ n ih => rw [Nat.mul_succ, Int.pow_add, ih, Int.pow_succ]
theorem imul_pow (a b : Int) (n : Nat) : (a * b) ^ n = a ^ n * b ^ n := by
  induction n with
  | zero => simp
  | succ n ih => rw [Int.pow_succ, Int.pow_succ, Int.pow_succ, ih]; grind
theorem Bs.lit2 (w : World) (d d' : Nat) (hd : d < 256) (hd' : d' < 256) (t : Nat) : Bs (w.alloc (.cells #[.int .u8 (d : Nat), .int .u8 (d' : Nat)] t)) (some ⟨w.heap.size, 0, none⟩) 2 2 (d * 256 + d') := by
  refine ⟨fun i => if i = 0 then d else d', fun i _ => by show (if i = 0 then d else d') < 256; split <;> assumption, ⟨Nat.le_refl _, .mk fun i hi => ?_, fun e => by cases e⟩, by simp [be]⟩
  rw [World.cell?_alloc_new]
  rcases (show i = 0 ∨ i = 1 by omega) with h | h <;> subst h <;> rfl
/-- The inverse of a product. -/
theorem isInv_mul {x y m X Y : Nat} (hx : IsInv x m X) (hy : IsInv y m Y) : IsInv (x * y % m) m (X * Y % m) where
  lt := Nat.mod_lt _ (by have := hx.lt; omega)
  eq := by
    have e : X * Y % m * (x * y % m) % m = (X * x) * (Y * y) % m := by
      rw [← Nat.mul_mod]
      congr 1
      grind
    rw [e, Nat.mul_mod, hx.eq, hy.eq, ← Nat.mul_mod, Nat.one_mul]
/-- A factor of an invertible number is invertible. -/
theorem gcd_of_mul {x y m : Nat} (_hm : 1 < m) (h : Nat.gcd (x * y % m) m = 1) : Nat.gcd x m = 1 ∧ Nat.gcd y m = 1 := by
  have h1 : Nat.gcd (x * y) m = 1 := by rw [Nat.gcd_comm, Nat.gcd_rec, h]
  have h2 : Nat.gcd x m ∣ 1 := by rw [← h1]; exact Nat.dvd_gcd (Nat.dvd_trans (Nat.gcd_dvd_left x m) (Nat.dvd_mul_right x y)) (Nat.gcd_dvd_right x m)
  have h3 : Nat.gcd y m ∣ 1 := by rw [← h1]; exact Nat.dvd_gcd (Nat.dvd_trans (Nat.gcd_dvd_left y m) (Nat.dvd_mul_left y x)) (Nat.gcd_dvd_right y m)
  exact ⟨Nat.dvd_one.1 h2, Nat.dvd_one.1 h3⟩

end Go.Proofs.Ytpojonfopoobpaa
