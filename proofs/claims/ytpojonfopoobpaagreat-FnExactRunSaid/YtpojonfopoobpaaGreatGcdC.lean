/-
  Contracts: GCDVarTime, impl.isZero, impl.isOdd, impl.GCD, spec.divisor, spec.GCD.
  Contracts: impl.GCD, spec.divisor, spec.GCD.
-/
import Derived.Test.YtpojonfopoobpaaGreatGcdA
import Derived.Test.YtpojonfopoobpaaGreatLwBase
import Derived.Test.YtpojonfopoobpaaGreatSpecF
namespace Go.Proofs.YtpojonfopoobpaaGreat
open Go.RowKit


theorem and_one8 {d : Nat} (hd : d < 256) : bits .and .u8 (d : Int) 1 = ((d % 2 : Nat) : Int) := by
  have h : (BitVec.ofInt 8 (d : Int) &&& BitVec.ofInt 8 1).toNat = d % 2 := by
    rw [BitVec.toNat_and, show (BitVec.ofInt 8 1).toNat = 1 from rfl, BitVec.ofInt_natCast, BitVec.toNat_ofNat, Nat.mod_eq_of_lt hd, Nat.and_one_is_mod]
  show IntKind.u8.wrap ((BitVec.ofInt 8 (d : Int) &&& BitVec.ofInt 8 1).toNat : Int) = _
  rw [h, IntWalk.u8_in _ (by omega)]
theorem be_odd' {f : Nat → Nat} {n : Nat} (h : 0 < n) : be f n % 2 = f (n - 1) % 2 := by
  obtain ⟨m, rfl⟩ : ∃ m, n = m + 1 := ⟨n - 1, by omega⟩
  simp only [be, Nat.add_sub_cancel]; omega
set_option maxRecDepth 100000 in
set_option maxHeartbeats 1000000 in
/-- The thin package's test whether a number is odd. -/
theorem ioddT_bs {a : Option Addr} {n c N : Nat} {w : World} (hn : n ≤ 1048576) (h : Bs w a n c N) :
    Calls Tryz.prog 14 #[.slice a n c] w fun e w' => e = .returned (.bool (decide (N % 2 = 1))) ∧ w = w' := by
  obtain ⟨f, hf, hs, rfl⟩ := h
  replace hs := hs.rd
  by_cases h0 : n = 0
  · subst h0
    go_enter Tryz.func14, Tryz.ntmps14
    go_wp2
    go_ret
    exact ⟨rfl, rfl⟩
  · obtain ⟨m, rfl⟩ : ∃ m, n = m + 1 := ⟨n - 1, by omega⟩
    have HB : Hid (be f (m + 1) % 2 = f m % 2) := be_odd' (n := m + 1) (by omega)
    obtain ⟨b, off, d, rfl, hcell, hd, HD⟩ := byte_cell hs hf (show m < m + 1 by omega)
    clear hs hf
    have e1 := and_one8 hd
    by_cases h2 : d % 2 = 1
    · have HY : Hid (decide (be f (m + 1) % 2 = 1) = true) := decide_eq_true (by rw [HB.out, ← HD.out]; exact h2)
      rw [h2] at e1
      clear h2
      go_enter Tryz.func14, Tryz.ntmps14
      go_wp2
      go_ret
      exact ⟨ret_bool HY.out.symm, rfl⟩
    · have HN : Hid (decide (be f (m + 1) % 2 = 1) = false) := decide_eq_false (by rw [HB.out, ← HD.out]; exact h2)
      rw [show d % 2 = 0 by omega] at e1
      clear h2
      go_enter Tryz.func14, Tryz.ntmps14
      go_wp2
      go_ret
      exact ⟨ret_bool HN.out.symm, rfl⟩
end Go.Proofs.YtpojonfopoobpaaGreat

namespace Go.Proofs.YtpojonfopoobpaaGreat
open Go.RowKit

/-- What GCD gives: nothing where one number is 0 or both are even. -/
def gcdO (A B : Nat) : Option (Nat × Nat) := if A = 0 ∨ B = 0 ∨ (A % 2 = 0 ∧ B % 2 = 0) then none else some (nb (Nat.gcd A B), Nat.gcd A B)
theorem gcdO_none {A B : Nat} (h : A = 0 ∨ B = 0 ∨ (A % 2 = 0 ∧ B % 2 = 0)) : gcdO A B = none := if_pos h
theorem gcdO_some {A B : Nat} (h : ¬ (A = 0 ∨ B = 0 ∨ (A % 2 = 0 ∧ B % 2 = 0))) : gcdO A B = some (nb (Nat.gcd A B), Nat.gcd A B) := if_neg h
theorem gcdO_cases {w : World} {a a' : Option Addr} {n c n' c' A B : Nat} (hA : Bs w a n c A) (_hB : Bs w a' n' c' B) : Hid (gcdO A B = none) ∨ ∃ S N, S ≤ n ∧ Hid (gcdO A B = some (S, N)) := by
  by_cases h : A = 0 ∨ B = 0 ∨ (A % 2 = 0 ∧ B % 2 = 0)
  · exact .inl (gcdO_none h)
  · refine .inr ⟨_, _, ?_, gcdO_some h⟩
    have h1 : Nat.gcd A B ≤ A := Nat.gcd_le_left B (by omega)
    exact Nat.le_trans (by have := blen_mono h1; unfold nb; omega) hA.nb


end Go.Proofs.YtpojonfopoobpaaGreat
