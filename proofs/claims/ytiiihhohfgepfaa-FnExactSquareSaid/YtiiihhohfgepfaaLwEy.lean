/-
  The laws FnExact.. over Mul, Mod, Exp, Inverse, ModulusProduct.
-/
import Derived.Test.YtiiihhohfgepfaaLwIn
import Derived.Test.YtiiihhohfgepfaaImpC
import Derived.Test.YtiiihhohfgepfaaSpecL
namespace Go.Proofs.Ytiiihhohfgepfaa
open Go.RowKit


set_option maxRecDepth 100000 in
set_option maxHeartbeats 4000000 in
theorem law_FnExactSquare (ax : Option Addr) (nx cx : Nat) (fx : Nat → Nat) (am : Option Addr) (nm cm : Nat) (fm : Nat → Nat) (w : World) (hfx : ∀ i, i < nx → fx i < 256) (hsx : Sl .u8 w ax nx cx fx) (hfm : ∀ i, i < nm → fm i < 256) (hsm : Sl .u8 w am nm cm fm) :
    Calls Try.prog 14 #[.slice ax nx cx, .slice am nm cm] w (Holds1 w) := by
  obtain ⟨Xx, HXx⟩ : ∃ X, Hid (X = be fx nx) := ⟨_, rfl⟩
  have hx : Bs w ax nx cx Xx := by rw [HXx.out]; exact .mk' hfx hsx
  clear hfx hsx HXx
  obtain ⟨Xm, HXm⟩ : ∃ X, Hid (X = be fm nm) := ⟨_, rfl⟩
  have hm : Bs w am nm cm Xm := by rw [HXm.out]; exact .mk' hfm hsm
  clear hfm hsm HXm
  by_cases s0 : 2147483647 < nx
  · go_enter Try.func14, Try.ntmps14
    go_wp2_with fail
    go_ret
    exact ⟨rfl, .refl _ _⟩
  · skip
    by_cases s1 : 2147483647 < nm
    · go_enter Try.func14, Try.ntmps14
      go_wp2_with fail
      go_ret
      exact ⟨rfl, .refl _ _⟩
    · skip
      by_cases t0 : 300 < nm ∨ 300 < nx ∨ (1 < Xm ∧ nb Xm < nx)
      · go_enter Try.func14, Try.ntmps14
        have u := Upd.refl (fun _ => False) w
        go_wp2_with fail
        with_reducible refine (beyond_yes t0 hx hm).mono ?_
        rintro e v1 ⟨rfl, hu1⟩
        replace hx := hx.keep hu1
        replace hm := hm.keep hu1
        replace u := u.trans hu1
        clear hu1
        go_wp2_with fail
        go_ret
        exact ⟨rfl, u⟩
      · skip
        have hnb := hm.nb
        rcases optN_ca (1 < Xm ∧ Xx < Xm) (Xm) ((Xx * Xx) % Xm) with ⟨hc, ho⟩ | ⟨hc, ho⟩
        · clear hc
          go_enter Try.func14, Try.ntmps14
          have u := Upd.refl (fun _ => False) w
          go_wp2_with fail
          with_reducible refine (beyond_no t0 hx hm).mono ?_
          rintro e v1 ⟨rfl, hu1⟩
          replace hx := hx.keep hu1
          replace hm := hm.keep hu1
          replace u := u.trans hu1
          clear hu1
          have kp := iSquare_bs (fun h => by omega) (by omega) hx hm
          rw [ho.out] at kp
          replace kp := Lib.hid kp
          go_wp2_with fail
          with_reducible refine (kp.out).mono ?_
          rintro e v2 ⟨adp, cdp, rfl, hp, hu2⟩
          replace hx := hx.keep hu2
          replace hm := hm.keep hu2
          replace u := u.trans hu2
          clear hu2
          have kq := sMul_bs (by omega) (by omega) (by omega) hx hx hm
          rw [optN_iff (show (1 < Xm ∧ Xx < Xm ∧ Xx < Xm) ↔ (1 < Xm ∧ Xx < Xm) by omega)] at kq
          rw [ho.out] at kq
          replace kq := Lib.hid kq
          go_wp2_with fail
          with_reducible refine (kq.out).mono ?_
          rintro e v3 ⟨adq, cdq, rfl, hq, hu3⟩
          replace hx := hx.keep hu3
          replace hm := hm.keep hu3
          replace hp := hp.keep hu3
          replace u := u.trans hu3
          clear hu3
          go_wp2_with fail
          with_reducible refine (same_eq (by omega) hp hq).mono ?_
          rintro e v4 ⟨rfl, hu4⟩
          replace hx := hx.keep hu4
          replace hm := hm.keep hu4
          replace hp := hp.keep hu4
          replace hq := hq.keep hu4
          replace u := u.trans hu4
          clear hu4
          go_wp2_with fail
          go_ret
          exact ⟨rfl, u⟩
        · clear hc
          go_enter Try.func14, Try.ntmps14
          have u := Upd.refl (fun _ => False) w
          go_wp2_with fail
          with_reducible refine (beyond_no t0 hx hm).mono ?_
          rintro e v1 ⟨rfl, hu1⟩
          replace hx := hx.keep hu1
          replace hm := hm.keep hu1
          replace u := u.trans hu1
          clear hu1
          have kp := iSquare_bs (fun h => by omega) (by omega) hx hm
          rw [ho.out] at kp
          replace kp := Lib.hid kp
          go_wp2_with fail
          with_reducible refine (kp.out).mono ?_
          rintro e v2 ⟨rfl, hu2⟩
          replace hx := hx.keep hu2
          replace hm := hm.keep hu2
          replace u := u.trans hu2
          clear hu2
          have kq := sMul_bs (by omega) (by omega) (by omega) hx hx hm
          rw [optN_iff (show (1 < Xm ∧ Xx < Xm ∧ Xx < Xm) ↔ (1 < Xm ∧ Xx < Xm) by omega)] at kq
          rw [ho.out] at kq
          replace kq := Lib.hid kq
          go_wp2_with fail
          with_reducible refine (kq.out).mono ?_
          rintro e v3 ⟨rfl, hu3⟩
          replace hx := hx.keep hu3
          replace hm := hm.keep hu3
          replace u := u.trans hu3
          clear hu3
          go_wp2_with fail
          with_reducible refine (same_eq (by omega) (Bs.emp _) (Bs.emp _)).mono ?_
          rintro e v4 ⟨rfl, hu4⟩
          replace hx := hx.keep hu4
          replace hm := hm.keep hu4
          replace u := u.trans hu4
          clear hu4
          go_wp2_with fail
          go_ret
          exact ⟨rfl, u⟩





end Go.Proofs.Ytiiihhohfgepfaa
