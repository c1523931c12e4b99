/-
  Contracts: GCDVarTime, impl.isZero, impl.isOdd, impl.GCD, spec.divisor, spec.GCD.
  Contracts: impl.GCD, spec.divisor, spec.GCD.
-/
import Derived.Test.YtgdjhkmofedhpaaDoorGcdA
import Derived.Test.YtgdjhkmofedhpaaDoorLwBase
import Derived.Test.YtgdjhkmofedhpaaDoorSpecF
namespace Go.Proofs.YtgdjhkmofedhpaaDoor
open Go.RowKit


set_option maxHeartbeats 400000 in
theorem isZero1_any (d : Nat) (w : World) (_hd : d < 256) :
    Calls Tryd.prog 20 #[.int .u8 d] w fun e w' => e = .returned (.bool ((d : Int) != 0)) ∧ w = w' := by
  go_enter Tryd.func20, Tryd.ntmps20
  go_wp2
  go_ret
  exact ⟨rfl, rfl⟩
set_option maxRecDepth 100000 in
set_option maxHeartbeats 1000000 in
theorem indexFunc_zero (a : Option Addr) (n c : Nat) (f : Nat → Nat) (w : World) (hn : n ≤ 1048576) (hf : ∀ i, i < n → f i = 0) (hs : Rd .u8 w a n f) :
    Calls Tryd.prog 28 #[.slice a n c, .func (.func 20) #[] #[]] w fun e w' => e = .returned (.int .i64 (-1)) ∧ w = w' := by
  have HF := Lib.hid hf
  clear hf
  go_enter Tryd.func28, Tryd.ntmps28
  go_wp2_with fail
  go_loop [4, 5, 8] (fun r j i => ∃ k : Nat, k ≤ n ∧ i = .int .i64 k) (fun _ _ i => n - (intOf i).toNat)
  case atStart => exact ⟨0, Nat.zero_le _, rfl⟩
  case round =>
    obtain ⟨k, hk, rfl⟩ := hrel
    by_cases hlt : k < n
    · obtain ⟨b, off, rfl, hc⟩ := hs.open (by omega)
      have hcell := hc k hlt
      rw [HF.out k hlt] at hcell
      have k1 : Calls Tryd.prog 20 #[.int .u8 0] w fun e w' => e = .returned (.bool false) ∧ w = w' := isZero1_any 0 w (by omega)
      replace k1 := Lib.hid k1
      clear hc
      go_wp2_with fail
      with_reducible refine k1.out.mono ?_
      rintro e w' ⟨rfl, rfl⟩
      go_wp2_with fail
      go_round
      case rel => exact ⟨k + 1, by omega, by go_num⟩
      case measure => simp [intOf]; omega
    · go_wp2_with fail
      go_ret
      exact ⟨rfl, rfl⟩
set_option maxRecDepth 100000 in
set_option maxHeartbeats 1000000 in
theorem indexFunc_some (a : Option Addr) (n c q : Nat) (f : Nat → Nat) (w : World) (hn : n ≤ 1048576) (hf : ∀ i, i < n → f i < 256) (hq : q < n) (h0 : f q ≠ 0) (hs : Rd .u8 w a n f) :
    Calls Tryd.prog 28 #[.slice a n c, .func (.func 20) #[] #[]] w fun e w' => (∃ k : Nat, k < n ∧ e = .returned (.int .i64 k)) ∧ w = w' := by
  have HF := Lib.hid hf
  have H0 := Lib.hid h0
  clear hf h0
  go_enter Tryd.func28, Tryd.ntmps28
  go_wp2_with fail
  go_loop [4, 5, 8] (fun r j i => ∃ k : Nat, k ≤ q ∧ i = .int .i64 k) (fun _ _ i => n - (intOf i).toNat)
  case atStart => exact ⟨0, Nat.zero_le _, rfl⟩
  case round =>
    obtain ⟨k, hk, rfl⟩ := hrel
    have hlt : k < n := by omega
    obtain ⟨b, off, d, rfl, hcell, hd, HD⟩ := byte_cell hs HF.out hlt
    have k1 := isZero1_any d w hd
    by_cases hz : d = 0
    · have hkq : k + 1 ≤ q := by
        rcases (show k = q ∨ k + 1 ≤ q by omega) with h | h
        · exact absurd (by rw [← h, ← HD.out]; exact hz) H0.out
        · exact h
      rw [show ((d : Int) != 0) = false by rw [hz]; simp] at k1
      replace k1 := Lib.hid k1
      clear hz
      go_wp2_with fail
      with_reducible refine k1.out.mono ?_
      rintro e w' ⟨rfl, rfl⟩
      go_wp2_with fail
      go_round
      case rel => exact ⟨k + 1, hkq, by go_num⟩
      case measure => simp [intOf]; omega
    · rw [show ((d : Int) != 0) = true by rw [bne_iff_ne]; omega] at k1
      replace k1 := Lib.hid k1
      clear hz
      go_wp2_with fail
      with_reducible refine k1.out.mono ?_
      rintro e w' ⟨rfl, rfl⟩
      go_wp2_with fail
      go_ret
      exact ⟨⟨k, hlt, rfl⟩, rfl⟩
/-- The thin package's test for 0. -/
theorem izeroT_bs {a : Option Addr} {n c N : Nat} {w : World} (hn : n ≤ 1048576) (h : Bs w a n c N) :
    Calls Tryd.prog 11 #[.slice a n c] w fun e w' => e = .returned (.bool (decide (N = 0))) ∧ w = w' := by
  obtain ⟨f, hf, hs, rfl⟩ := h
  by_cases h0 : be f n = 0
  · have k1 := indexFunc_zero a n c f w hn (be_eq_zero.1 h0) hs.rd
    rw [decide_eq_true h0]
    replace k1 := Lib.hid k1
    clear h0 hs hf
    have k2 : Calls Tryd.prog 19 #[.slice a n c, .func (.func 20) #[] #[]] w fun e w' => e = .returned (.bool false) ∧ w = w' := by
      go_enter Tryd.func19, Tryd.ntmps19
      go_wp2_with fail
      with_reducible refine k1.out.mono ?_
      rintro e w' ⟨rfl, rfl⟩
      go_wp2_with fail
      go_ret
      exact ⟨rfl, rfl⟩
    replace k2 := Lib.hid k2
    go_enter Tryd.func11, Tryd.ntmps11
    go_wp2_with fail
    with_reducible refine k2.out.mono ?_
    rintro e w' ⟨rfl, rfl⟩
    go_wp2_with fail
    go_ret
    exact ⟨rfl, rfl⟩
  · obtain ⟨q, hq, hq0⟩ : ∃ q, q < n ∧ f q ≠ 0 := by
      refine Classical.byContradiction fun hx => h0 (be_eq_zero.2 fun i hi => ?_)
      exact Classical.byContradiction fun hz => hx ⟨i, hi, hz⟩
    have k1 := indexFunc_some a n c q f w hn hf hq hq0 hs.rd
    rw [decide_eq_false h0]
    replace k1 := Lib.hid k1
    clear h0 hs hf hq0 hq
    have k2 : Calls Tryd.prog 19 #[.slice a n c, .func (.func 20) #[] #[]] w fun e w' => e = .returned (.bool true) ∧ w = w' := by
      go_enter Tryd.func19, Tryd.ntmps19
      go_wp2_with fail
      with_reducible refine k1.out.mono ?_
      rintro e w' ⟨⟨k, hk, rfl⟩, rfl⟩
      go_wp2_with fail
      go_ret
      exact ⟨rfl, rfl⟩
    replace k2 := Lib.hid k2
    go_enter Tryd.func11, Tryd.ntmps11
    go_wp2_with fail
    with_reducible refine k2.out.mono ?_
    rintro e w' ⟨rfl, rfl⟩
    go_wp2_with fail
    go_ret
    exact ⟨rfl, rfl⟩
end Go.Proofs.YtgdjhkmofedhpaaDoor

namespace Go.Proofs.YtgdjhkmofedhpaaDoor
open Go.RowKit

/-- What GCD gives: nothing where one number is 0 or both are even. -/
def gcdO (A B : Nat) : Option (Nat × Nat) := if A = 0 ∨ B = 0 ∨ (A % 2 = 0 ∧ B % 2 = 0) then none else some (nb (Nat.gcd A B), Nat.gcd A B)
theorem gcdO_none {A B : Nat} (h : A = 0 ∨ B = 0 ∨ (A % 2 = 0 ∧ B % 2 = 0)) : gcdO A B = none := if_pos h
theorem gcdO_some {A B : Nat} (h : ¬ (A = 0 ∨ B = 0 ∨ (A % 2 = 0 ∧ B % 2 = 0))) : gcdO A B = some (nb (Nat.gcd A B), Nat.gcd A B) := if_neg h
theorem gcdO_cases {w : World} {a a' : Option Addr} {n c n' c' A B : Nat} (hA : Bs w a n c A) (_hB : Bs w a' n' c' B) : Hid (gcdO A B = none) ∨ ∃ S N, S ≤ n ∧ Hid (gcdO A B = some (S, N)) := by
  by_cases h : A = 0 ∨ B = 0 ∨ (A % 2 = 0 ∧ B % 2 = 0)
  · exact .inl (gcdO_none h)
  · refine .inr ⟨_, _, ?_, gcdO_some h⟩
    have h1 : Nat.gcd A B ≤ A := Nat.gcd_le_left B (by omega)
    exact Nat.le_trans (by have := blen_mono h1; unfold nb; omega) hA.nb


end Go.Proofs.YtgdjhkmofedhpaaDoor
