/-
  Contracts of the reference: same, Equal, IsZero, IsOne, IsOdd, ModulusBytes, SetOverflowing.
-/
import Derived.Test.YtiiihhohfgepfaaSpecI
import Derived.Test.YtiiihhohfgepfaaNatF
namespace Go.Proofs.Ytiiihhohfgepfaa
open Go.RowKit

/-- A number where c holds. -/
def optI (c : Prop) [Decidable c] (N : Nat) : Option Nat := if c then some N else none
theorem optI_yes {c : Prop} [Decidable c] (h : c) (N : Nat) : optI c N = some N := if_pos h
theorem optI_no {c : Prop} [Decidable c] (h : ¬ c) (N : Nat) : optI c N = none := if_neg h

set_option maxRecDepth 100000 in
set_option maxHeartbeats 1000000 in
theorem sSame_any (a a' : Option Addr) (c c' A B : Nat) (w : World) (hA : nd A ≤ 10000) (hB : nd B ≤ 10000) (hsa : Sl .i64 w a (nd A) c (dg 65536 A)) (hsb : Sl .i64 w a' (nd B) c' (dg 65536 B)) :
    Calls Try.prog 58 #[.slice a (nd A) c, .slice a' (nd B) c'] w fun e w' => e = .returned (.int .i64 (eqN A B : Nat)) ∧ Upd0 w w' := by
  have k1 := less_any a a' c c' A B w (by omega) (by omega) hsa.rd hsb.rd
  by_cases h1 : A < B
  · rw [decide_eq_true h1] at k1
    have HE : Hid (eqN A B = 0) := if_neg (by omega)
    rw [HE.out]
    replace k1 := Lib.hid k1
    clear hsa hsb h1
    go_enter Try.func58, Try.ntmps58
    go_wp2_with fail
    with_reducible refine k1.out.mono ?_
    rintro e w1 ⟨rfl, hu1⟩
    replace hu1 := drewUpd hu1
    go_wp2_with fail
    go_ret
    exact ⟨rfl, hu1⟩
  · rw [decide_eq_false h1] at k1
    replace k1 := Lib.hid k1
    by_cases h2 : B < A
    · have HE : Hid (eqN A B = 0) := if_neg (by omega)
      rw [HE.out]
      have HD := Lib.hid (decide_eq_true h2)
      clear h1 h2
      go_enter Try.func58, Try.ntmps58
      go_wp2_with fail
      with_reducible refine k1.out.mono ?_
      rintro e w1 ⟨rfl, hu1⟩
      replace hu1 := drewUpd hu1
      have k2 := less_any a' a c' c B A w1 (by omega) (by omega) (hsb.keep hu1).rd (hsa.keep hu1).rd
      rw [HD.out] at k2
      replace k2 := Lib.hid k2
      go_wp2_with fail
      with_reducible refine k2.out.mono ?_
      rintro e w2 ⟨rfl, hu2⟩
      replace hu2 := drewUpd hu2
      go_wp2_with fail
      go_ret
      exact ⟨rfl, hu1.trans hu2⟩
    · have HE : Hid (eqN A B = 1) := if_pos (by omega)
      rw [HE.out]
      have HD := Lib.hid (decide_eq_false h2)
      clear h1 h2
      go_enter Try.func58, Try.ntmps58
      go_wp2_with fail
      with_reducible refine k1.out.mono ?_
      rintro e w1 ⟨rfl, hu1⟩
      replace hu1 := drewUpd hu1
      have k2 := less_any a' a c' c B A w1 (by omega) (by omega) (hsb.keep hu1).rd (hsa.keep hu1).rd
      rw [HD.out] at k2
      replace k2 := Lib.hid k2
      go_wp2_with fail
      with_reducible refine k2.out.mono ?_
      rintro e w2 ⟨rfl, hu2⟩
      replace hu2 := drewUpd hu2
      go_wp2_with fail
      go_ret
      exact ⟨rfl, hu1.trans hu2⟩
end Go.Proofs.Ytiiihhohfgepfaa
