/-
  The law FnFermat.
-/
import Derived.Test.YtpojonfopoobpaaLwFa
import Derived.Test.YtpojonfopoobpaaLwFb
import Derived.Test.YtpojonfopoobpaaLwFc
import Derived.Test.YtpojonfopoobpaaLwFd
namespace Go.Proofs.Ytpojonfopoobpaa
open Go.RowKit

set_option maxRecDepth 100000 in
set_option maxHeartbeats 4000000 in
theorem law_FnFermat (which : Int) (ax : Option Addr) (nx cx : Nat) (fx : Nat → Nat) (w : World) (_hw : -9223372036854775808 ≤ which ∧ which ≤ 9223372036854775807) (hfx : ∀ i, i < nx → fx i < 256) (hsx : Sl .u8 w ax nx cx fx) :
    Calls Try.prog 6 #[.int .i64 which, .slice ax nx cx] w (Holds1 w) := by
  obtain ⟨Xx, HXx⟩ : ∃ X, Hid (X = be fx nx) := ⟨_, rfl⟩
  have hx : Bs w ax nx cx Xx := by rw [HXx.out]; exact .mk' hfx hsx
  clear hfx hsx HXx
  by_cases s0 : 2147483647 < nx
  · go_enter Try.func6, Try.ntmps6
    go_wp2_with fail
    go_ret
    exact ⟨rfl, .refl _ _⟩
  by_cases hw : which < 0
  · go_enter Try.func6, Try.ntmps6
    go_wp2_with fail
    go_ret
    exact ⟨rfl, by repeat (first | exact Upd.refl _ _ | refine Upd.alloc ?_ _)⟩
  by_cases hw8 : 8 ≤ which
  · go_enter Try.func6, Try.ntmps6
    go_wp2_with fail
    go_ret
    exact ⟨rfl, by repeat (first | exact Upd.refl _ _ | refine Upd.alloc ?_ _)⟩
  rcases (show which = 0 ∨ which = 1 ∨ which = 2 ∨ which = 3 ∨ which = 4 ∨ which = 5 ∨ which = 6 ∨ which = 7 by omega) with h | h | h | h | h | h | h | h <;> subst h
  · exact fermat0 ax nx cx Xx w hx s0
  · exact fermat1 ax nx cx Xx w hx s0
  · exact fermat2 ax nx cx Xx w hx s0
  · exact fermat3 ax nx cx Xx w hx s0
  · exact fermat4 ax nx cx Xx w hx s0
  · exact fermat5 ax nx cx Xx w hx s0
  · exact fermat6 ax nx cx Xx w hx s0
  · exact fermat7 ax nx cx Xx w hx s0
end Go.Proofs.Ytpojonfopoobpaa
