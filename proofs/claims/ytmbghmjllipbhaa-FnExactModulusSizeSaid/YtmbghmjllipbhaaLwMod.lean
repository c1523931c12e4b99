/-
  The law FnExactModulusSize.
-/
import Derived.Test.YtmbghmjllipbhaaLwBase
import Derived.Test.YtmbghmjllipbhaaModI
namespace Go.Proofs.Ytmbghmjllipbhaa
open Go.RowKit

set_option maxRecDepth 100000 in
set_option maxHeartbeats 4000000 in
theorem law_FnExactModulusSize (am : Option Addr) (nm cm : Nat) (fm : Nat → Nat) (w : World) (hfm : ∀ i, i < nm → fm i < 256) (hsm : Sl .u8 w am nm cm fm) :
    Calls Try.prog 6 #[.slice am nm cm] w (Holds1 w) := by
  obtain ⟨Xm, HXm⟩ : ∃ X, Hid (X = be fm nm) := ⟨_, rfl⟩
  have hm : Bs w am nm cm Xm := by rw [HXm.out]; exact .mk' hfm hsm
  clear hfm hsm HXm
  by_cases s0 : 2147483647 < nm
  · go_enter Try.func6, Try.ntmps6
    go_wp2_with fail
    go_ret
    exact ⟨rfl, .refl _ _⟩
  · skip
    by_cases t0 : 300 < nm
    · go_enter Try.func6, Try.ntmps6
      have u := Upd.refl (fun _ => False) w
      go_wp2_with fail
      with_reducible refine (long_yes t0 hm).mono ?_
      rintro e v1 ⟨rfl, hu1⟩
      replace hm := hm.keep hu1
      replace u := u.trans hu1
      clear hu1
      go_wp2_with fail
      go_ret
      exact ⟨rfl, u⟩
    · skip
      by_cases h1 : 1 < Xm
      · go_enter Try.func6, Try.ntmps6
        have u := Upd.refl (fun _ => False) w
        go_wp2_with fail
        with_reducible refine (long_no t0 hm).mono ?_
        rintro e v1 ⟨rfl, hu1⟩
        replace hm := hm.keep hu1
        replace u := u.trans hu1
        clear hu1
        go_wp2_with fail
        with_reducible refine (iModulusSize_yes (by omega) hm h1).mono ?_
        rintro e v2 ⟨rfl, hu2⟩
        replace hm := hm.keep hu2
        replace u := u.trans hu2
        clear hu2
        go_wp2_with fail
        with_reducible refine (sModulusSize_yes (by omega) hm h1).mono ?_
        rintro e v3 ⟨rfl, hu3⟩
        replace hm := hm.keep hu3
        replace u := u.trans hu3
        clear hu3
        go_wp2_with fail
        go_ret
        exact ⟨ret_bool (by simp), u⟩
      · go_enter Try.func6, Try.ntmps6
        have u := Upd.refl (fun _ => False) w
        go_wp2_with fail
        with_reducible refine (long_no t0 hm).mono ?_
        rintro e v1 ⟨rfl, hu1⟩
        replace hm := hm.keep hu1
        replace u := u.trans hu1
        clear hu1
        go_wp2_with fail
        with_reducible refine (iModulusSize_no (by omega) hm h1).mono ?_
        rintro e v2 ⟨rfl, hu2⟩
        replace hm := hm.keep hu2
        replace u := u.trans hu2
        clear hu2
        go_wp2_with fail
        with_reducible refine (sModulusSize_no (by omega) hm h1).mono ?_
        rintro e v3 ⟨rfl, hu3⟩
        replace hm := hm.keep hu3
        replace u := u.trans hu3
        clear hu3
        go_wp2_with fail
        go_ret
        exact ⟨rfl, u⟩

end Go.Proofs.Ytmbghmjllipbhaa
