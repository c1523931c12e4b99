/-
  The contracts of DivShort in the reference and in the thin package, and the laws FnExactDivShort, FnDivShift.
-/
import Derived.Test.YtpojonfopoobpaaLwBase
import Derived.Test.YtpojonfopoobpaaDivB
import Derived.Test.YtpojonfopoobpaaSpecF
namespace Go.Proofs.Ytpojonfopoobpaa
open Go.RowKit

/-- Bytes, a number and true are returned. -/
def RetDivB (w : World) (Q R : Nat) (e : Ending) (w' : World) : Prop :=
  ∃ a c, e = .returned (.tuple #[.slice a (nb Q) c, .int .i64 R, .bool true]) ∧ Sl .u8 w' a (nb Q) c (bytesN Q) ∧ Upd0 w w'

set_option maxHeartbeats 1000000 in
theorem iDivShort_any (a : Option Addr) (n c y : Nat) (f : Nat → Nat) (w : World) (hn : n ≤ 100000) (hy : y ≤ 9223372036854775807) (hy0 : 0 < y) (hf : ∀ i, i < n → f i < 256) (hs : Sl .u8 w a n c f) :
    Calls Try.prog 47 #[.slice a n c, .int .i64 y] w (RetDivB w (be f n / y) (be f n % y)) := by
  obtain ⟨R, HR⟩ : ∃ R, Hid (R = be f n % y) := ⟨_, rfl⟩
  have hRy : R < y := by rw [HR.out]; exact Nat.mod_lt _ hy0
  rw [← HR.out]
  go_enter Try.func47, Try.ntmps47
  go_wp2_with fail
  with_reducible refine (free_any a n c f w hn hf hs).mono ?_
  rintro e w1 ⟨p, b, c1, rfl, hx, hp, hb, hu⟩
  go_wp2_with fail
  with_reducible refine (divShortVT_any _ _ _ _ _ y _ hx (by omega) hy0).mono ?_
  rw [← HR.out]
  rintro e w2 ⟨rfl, hx2, hu2⟩
  go_wp2_with fail
  with_reducible refine (told_any _ _ _ _ _ _ hx2).mono ?_
  rintro e w3 ⟨a3, c3, rfl, hs3, hu3⟩
  go_wp2_with fail
  go_ret3
  exact ⟨a3, c3, rfl, hs3, (hu.then hu2 (fun i hi h => by omega)).trans hu3⟩

set_option maxHeartbeats 400000 in
theorem iDivShort_neg (a : Option Addr) (n c : Nat) (z : Int) (w : World) (hz : z < 1) :
    Calls Try.prog 47 #[.slice a n c, .int .i64 z] w fun e w' => e = .returned (.tuple #[.slice none 0 0, .int .i64 0, .bool false]) ∧ w = w' := by
  go_enter Try.func47, Try.ntmps47
  go_wp2
  go_ret3
  exact ⟨rfl, rfl⟩

end Go.Proofs.Ytpojonfopoobpaa
