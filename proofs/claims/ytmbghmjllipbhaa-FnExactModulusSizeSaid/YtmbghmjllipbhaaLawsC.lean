/-
  The contract of impl.ShiftRight and the laws FnExactShiftRight, FnShiftSteps.
-/
import Derived.Test.YtmbghmjllipbhaaLawsB
import Derived.Test.YtmbghmjllipbhaaNatD
namespace Go.Proofs.Ytmbghmjllipbhaa
open Go.RowKit

set_option maxHeartbeats 400000 in
theorem iShiftRight_any (a : Option Addr) (n c k : Nat) (f : Nat → Nat) (w : World) (hn : n ≤ 100000) (hk : k ≤ 9223372036854775807) (hf : ∀ i, i < n → f i < 256) (hs : Sl .u8 w a n c f) :
    Calls Try.prog 35 #[.slice a n c, .int .i64 k] w (RetBytes w (nb (be f n / 2 ^ k)) (bytesN (be f n / 2 ^ k))) := by
  go_enter Try.func35, Try.ntmps35
  go_wp2_with fail
  refine (free_any a n c f w hn hf hs).mono ?_
  rintro e w1 ⟨p, b, c1, rfl, hx, hp, hb, hu⟩
  go_wp2_with fail
  refine (shiftRightVT_any _ _ _ _ _ _ _ hx (by omega)).mono ?_
  rintro e w2 ⟨rfl, hx2, hu2⟩
  go_wp2_with fail
  refine (told_any _ _ _ _ _ _ hx2).mono ?_
  rintro e w3 ⟨a3, c3, rfl, hs3, hu3⟩
  go_wp2_with fail
  go_ret
  exact ⟨a3, c3, rfl, hs3, (hu.then hu2 (fun i hi h => by omega)).trans hu3⟩

set_option maxHeartbeats 400000 in
theorem iShiftRight_neg (a : Option Addr) (n c : Nat) (z : Int) (w : World) (hz : z < 0) :
    Calls Try.prog 35 #[.slice a n c, .int .i64 z] w fun e w' => e = .returned (.slice none 0 0) ∧ w = w' := by
  go_enter Try.func35, Try.ntmps35
  go_wp2
  go_ret
  exact ⟨rfl, rfl⟩
theorem nb_quot_le {f : Nat → Nat} {n : Nat} (hf : ∀ i, i < n → f i < 256) (d : Nat) : nb (be f n / d) ≤ n :=
  (nb_le_iff n _).2 (Nat.lt_of_le_of_lt (Nat.div_le_self _ _) (be_lt hf))
theorem nb_le_bytes {f : Nat → Nat} {n : Nat} (hf : ∀ i, i < n → f i < 256) : nb (be f n) ≤ n := (nb_le_iff n _).2 (be_lt hf)
theorem iShiftRight_num (a : Option Addr) (M c k : Nat) (w : World) (hn : nb M ≤ 100000) (hk : k ≤ 9223372036854775807) (hs : Sl .u8 w a (nb M) c (bytesN M)) :
    Calls Try.prog 35 #[.slice a (nb M) c, .int .i64 k] w (RetBytes w (nb (M / 2 ^ k)) (bytesN (M / 2 ^ k))) := by
  have h := iShiftRight_any a (nb M) c k (bytesN M) w hn hk (fun i _ => bytesN_lt M i) hs
  rw [be_bytesN] at h
  exact h
theorem iBitLen_num (a : Option Addr) (M c : Nat) (w : World) (hn : nb M ≤ 100000) (hs : Sl .u8 w a (nb M) c (bytesN M)) :
    Calls Try.prog 50 #[.slice a (nb M) c] w fun e w' => e = .returned (.int .i64 (blen M)) ∧ Upd0 w w' := by
  have h := iBitLen_any a (nb M) c (bytesN M) w hn (fun i _ => bytesN_lt M i) hs
  rw [be_bytesN] at h
  exact h
end Go.Proofs.Ytmbghmjllipbhaa
