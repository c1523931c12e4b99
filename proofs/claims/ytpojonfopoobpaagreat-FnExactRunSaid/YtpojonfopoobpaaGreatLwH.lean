/-
  What the ring laws share: BitLen, comparisons by a bool, powers of whole numbers, literals of two bytes, inverses of products.
-/
import Derived.Test.YtpojonfopoobpaaGreatLwIn
import Derived.Test.YtpojonfopoobpaaGreatApp
import Derived.Test.YtpojonfopoobpaaGreatImpD
import Derived.Test.YtpojonfopoobpaaGreatSpecL
import Derived.Test.YtpojonfopoobpaaGreatRing
namespace Go.Proofs.YtpojonfopoobpaaGreat
open Go.RowKit

theorem same_b {a a' : Option Addr} {n c c' N N' : Nat} {b : Bool} {w : World} (hn : n ≤ 1048576) (h : Bs w a n c N) (h' : Bs w a' n c' N') (hb : decide (N = N') = b) :
    Calls Tryz.prog 8 #[.slice a n c, .slice a' n c'] w fun e w' => e = .returned (.bool b) ∧ Upd0 w w' :=
  (same_bs hn h h').mono fun _ _ ⟨h1, h2⟩ => ⟨by rw [h1, ← hb]; simp, h2⟩
theorem ipow_mul (a : Int) (m n : Nat) : a ^ (m * n) = (a ^ m) ^ n := by
  induction n with
  | zero => simp
  | succ n ih => rw [Nat.mul_succ, Int.pow_add, ih, Int.pow_succ]
theorem imul_pow (a b : Int) (n : Nat) : (a * b) ^ n = a ^ n * b ^ n := by
  induction n with
  | zero => simp
  | succ n ih => rw [Int.pow_succ, Int.pow_succ, Int.pow_succ, ih]; grind
theorem Bs.lit2 (w : World) (d d' : Nat) (hd : d < 256) (hd' : d' < 256) (t : Nat) : Bs (w.alloc (.cells #[.int .u8 (d : Nat), .int .u8 (d' : Nat)] t)) (some ⟨w.heap.size, 0, none⟩) 2 2 (d * 256 + d') := by
  refine ⟨fun i => if i = 0 then d else d', fun i _ => by show (if i = 0 then d else d') < 256; split <;> assumption, ⟨Nat.le_refl _, .mk fun i hi => ?_, fun e => by cases e⟩, by simp [be]⟩
  rw [World.cell?_alloc_new]
  rcases (show i = 0 ∨ i = 1 by omega) with h | h <;> subst h <;> rfl
/-- The inverse of a product. -/
theorem isInv_mul {x y m X Y : Nat} (hx : IsInv x m X) (hy : IsInv y m Y) : IsInv (x * y % m) m (X * Y % m) where
  lt := Nat.mod_lt _ (by have := hx.lt; omega)
  eq := by
    have e : X * Y % m * (x * y % m) % m = (X * x) * (Y * y) % m := by
      rw [← Nat.mul_mod]
      congr 1
      grind
    rw [e, Nat.mul_mod, hx.eq, hy.eq, ← Nat.mul_mod, Nat.one_mul]
/-- A factor of an invertible number is invertible. -/
theorem gcd_of_mul {x y m : Nat} (_hm : 1 < m) (h : Nat.gcd (x * y % m) m = 1) : Nat.gcd x m = 1 ∧ Nat.gcd y m = 1 := by
  have h1 : Nat.gcd (x * y) m = 1 := by rw [Nat.gcd_comm, Nat.gcd_rec, h]
  have h2 : Nat.gcd x m ∣ 1 := by rw [← h1]; exact Nat.dvd_gcd (Nat.dvd_trans (Nat.gcd_dvd_left x m) (Nat.dvd_mul_right x y)) (Nat.gcd_dvd_right x m)
  have h3 : Nat.gcd y m ∣ 1 := by rw [← h1]; exact Nat.dvd_gcd (Nat.dvd_trans (Nat.gcd_dvd_left y m) (Nat.dvd_mul_left y x)) (Nat.gcd_dvd_right y m)
  exact ⟨Nat.dvd_one.1 h2, Nat.dvd_one.1 h3⟩

end Go.Proofs.YtpojonfopoobpaaGreat
