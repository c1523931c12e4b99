/-
  The contracts of impl.ShiftRightOne and the law FnExactShiftRightOne.
-/
import Derived.Test.YtchgachankcfiaaLawsA
import Derived.Test.YtchgachankcfiaaNatC
import Derived.Test.YtchgachankcfiaaSpecC
import Derived.Test.YtchgachankcfiaaSame
namespace Go.Proofs.Ytchgachankcfiaa
open Go.RowKit

/-- The bytes of N, without zeros ahead. -/
abbrev bytesN (N : Nat) : Nat → Nat := fun i => dg 256 N (nb N - 1 - i)
theorem bytesN_lt (N i : Nat) : bytesN N i < 256 := dg_lt (by omega) _ _
theorem be_bytesN (N : Nat) : be (bytesN N) (nb N) = N := be_of_dg (lt_pow_nb N)

set_option maxHeartbeats 400000 in
theorem iShiftRightOne_any (a : Option Addr) (n c : Nat) (f : Nat → Nat) (w : World) (hn : n ≤ 100000) (hf : ∀ i, i < n → f i < 256) (hs : Sl .u8 w a n c f) :
    Calls Try.prog 15 #[.slice a n c] w (RetBytes w (nb (be f n / 2)) (bytesN (be f n / 2))) := by
  go_enter Try.func15, Try.ntmps15
  go_wp2_with fail
  refine (free_any a n c f w hn hf hs).mono ?_
  rintro e w1 ⟨p, b, c1, rfl, hx, hp, hb, hu⟩
  go_wp2_with fail
  refine (shiftRightByOne_any _ _ _ _ _ _ hx).mono ?_
  rintro e w2 ⟨rfl, hx2, hu2⟩
  go_wp2_with fail
  refine (told_any _ _ _ _ _ _ hx2).mono ?_
  rintro e w3 ⟨a3, c3, rfl, hs3, hu3⟩
  go_wp2_with fail
  go_ret
  exact ⟨a3, c3, rfl, hs3, (hu.then hu2 (fun i hi h => by omega)).trans hu3⟩
set_option maxHeartbeats 400000 in
theorem law_FnExactShiftRightOne (a : Option Addr) (n c : Nat) (f : Nat → Nat) (w : World) (hf : ∀ i, i < n → f i < 256) (hs : Sl .u8 w a n c f) :
    Calls Try.prog 4 #[.slice a n c] w (Holds1 w) := by
  by_cases h1 : 2147483647 < n
  · go_enter Try.func4, Try.ntmps4
    go_wp2
    go_ret
    exact ⟨rfl, .refl _ _⟩
  · by_cases h2 : 300 < n
    · have hd : decide (300 < n) = true := by simpa using h2
      have hd := Lib.hid hd
      go_enter Try.func4, Try.ntmps4
      go_wp2_with fail
      refine (long_any _ _ _ _).mono ?_
      rw [hd.out]
      rintro e w1 ⟨rfl, rfl⟩
      go_wp2
      go_ret
      exact ⟨rfl, .refl _ _⟩
    · have hd : decide (300 < n) = false := by simpa using h2
      have hd := Lib.hid hd
      have hcall := fun (w : World) (hs : Sl .u8 w a n c f) => sShiftRight_any a n c 1 f w (by omega) (by omega) hf hs
      rw [Nat.pow_one] at hcall
      have hcall := Lib.hid hcall
      have HN : Hid (nb (be f n / 2) ≤ 1048576) := by
        show nb (be f n / 2) ≤ 1048576
        have h1 := (nb_le_iff n (be f n / 2)).2 (Nat.lt_of_le_of_lt (Nat.div_le_self _ _) (be_lt hf))
        omega
      go_enter Try.func4, Try.ntmps4
      go_wp2_with fail
      refine (long_any _ _ _ _).mono ?_
      rw [hd.out]
      rintro e w1 ⟨rfl, rfl⟩
      go_wp2_with fail
      refine (iShiftRightOne_any _ _ _ _ _ (by omega) hf hs).mono ?_
      rintro e w1 ⟨a1, c1, rfl, hs1, hu1⟩
      go_wp2_with fail
      refine (hcall.out _ (hs.keep hu1)).mono ?_
      rintro e w2 ⟨a2, c2, rfl, hs2, hu2⟩
      go_wp2_with fail
      refine (same_any _ _ _ _ _ _ _ _ _ HN.out (fun i _ => dg_lt (by omega) _ _) (fun i _ => dg_lt (by omega) _ _) (hs1.keep hu2).rd hs2.rd).mono ?_
      rw [sameB_true rfl (fun _ _ => rfl)]
      rintro e w3 ⟨rfl, k, rfl⟩
      go_wp2
      go_ret
      exact ⟨rfl, (hu1.trans hu2).drewN k⟩
end Go.Proofs.Ytchgachankcfiaa
