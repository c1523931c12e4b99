/-
  The laws FnExact.. over Mul, Mod, Exp, Inverse, ModulusProduct.
-/
import Derived.Test.YtmbghmjllipbhaaLwIn
import Derived.Test.YtmbghmjllipbhaaImpC
import Derived.Test.YtmbghmjllipbhaaSpecL
namespace Go.Proofs.Ytmbghmjllipbhaa
open Go.RowKit

set_option maxRecDepth 100000 in
set_option maxHeartbeats 4000000 in
theorem law_FnExactMul (ax : Option Addr) (nx cx : Nat) (fx : Nat → Nat) (ay : Option Addr) (ny cy : Nat) (fy : Nat → Nat) (am : Option Addr) (nm cm : Nat) (fm : Nat → Nat) (w : World) (hfx : ∀ i, i < nx → fx i < 256) (hsx : Sl .u8 w ax nx cx fx) (hfy : ∀ i, i < ny → fy i < 256) (hsy : Sl .u8 w ay ny cy fy) (hfm : ∀ i, i < nm → fm i < 256) (hsm : Sl .u8 w am nm cm fm) :
    Calls Try.prog 21 #[.slice ax nx cx, .slice ay ny cy, .slice am nm cm] w (Holds1 w) := by
  obtain ⟨Xx, HXx⟩ : ∃ X, Hid (X = be fx nx) := ⟨_, rfl⟩
  have hx : Bs w ax nx cx Xx := by rw [HXx.out]; exact .mk' hfx hsx
  clear hfx hsx HXx
  obtain ⟨Xy, HXy⟩ : ∃ X, Hid (X = be fy ny) := ⟨_, rfl⟩
  have hy : Bs w ay ny cy Xy := by rw [HXy.out]; exact .mk' hfy hsy
  clear hfy hsy HXy
  obtain ⟨Xm, HXm⟩ : ∃ X, Hid (X = be fm nm) := ⟨_, rfl⟩
  have hm : Bs w am nm cm Xm := by rw [HXm.out]; exact .mk' hfm hsm
  clear hfm hsm HXm
  by_cases s0 : 2147483647 < nx
  · go_enter Try.func21, Try.ntmps21
    go_wp2_with fail
    go_ret
    exact ⟨rfl, .refl _ _⟩
  · skip
    by_cases s1 : 2147483647 < ny
    · go_enter Try.func21, Try.ntmps21
      go_wp2_with fail
      go_ret
      exact ⟨rfl, .refl _ _⟩
    · skip
      by_cases s2 : 2147483647 < nm
      · go_enter Try.func21, Try.ntmps21
        go_wp2_with fail
        go_ret
        exact ⟨rfl, .refl _ _⟩
      · skip
        by_cases t0 : 300 < nm ∨ 300 < nx ∨ (1 < Xm ∧ nb Xm < nx)
        · go_enter Try.func21, Try.ntmps21
          have u := Upd.refl (fun _ => False) w
          go_wp2_with fail
          with_reducible refine (beyond_yes t0 hx hm).mono ?_
          rintro e v1 ⟨rfl, hu1⟩
          replace hx := hx.keep hu1
          replace hy := hy.keep hu1
          replace hm := hm.keep hu1
          replace u := u.trans hu1
          clear hu1
          go_wp2_with fail
          go_ret
          exact ⟨rfl, u⟩
        · skip
          by_cases t1 : 300 < nm ∨ 300 < ny ∨ (1 < Xm ∧ nb Xm < ny)
          · go_enter Try.func21, Try.ntmps21
            have u := Upd.refl (fun _ => False) w
            go_wp2_with fail
            with_reducible refine (beyond_no t0 hx hm).mono ?_
            rintro e v1 ⟨rfl, hu1⟩
            replace hx := hx.keep hu1
            replace hy := hy.keep hu1
            replace hm := hm.keep hu1
            replace u := u.trans hu1
            clear hu1
            go_wp2_with fail
            with_reducible refine (beyond_yes t1 hy hm).mono ?_
            rintro e v2 ⟨rfl, hu2⟩
            replace hx := hx.keep hu2
            replace hy := hy.keep hu2
            replace hm := hm.keep hu2
            replace u := u.trans hu2
            clear hu2
            go_wp2_with fail
            go_ret
            exact ⟨rfl, u⟩
          · skip
            have hnb := hm.nb
            rcases optN_ca (1 < Xm ∧ Xx < Xm ∧ Xy < Xm) (Xm) ((Xx * Xy) % Xm) with ⟨hc, ho⟩ | ⟨hc, ho⟩
            · clear hc
              go_enter Try.func21, Try.ntmps21
              have u := Upd.refl (fun _ => False) w
              go_wp2_with fail
              with_reducible refine (beyond_no t0 hx hm).mono ?_
              rintro e v1 ⟨rfl, hu1⟩
              replace hx := hx.keep hu1
              replace hy := hy.keep hu1
              replace hm := hm.keep hu1
              replace u := u.trans hu1
              clear hu1
              go_wp2_with fail
              with_reducible refine (beyond_no t1 hy hm).mono ?_
              rintro e v2 ⟨rfl, hu2⟩
              replace hx := hx.keep hu2
              replace hy := hy.keep hu2
              replace hm := hm.keep hu2
              replace u := u.trans hu2
              clear hu2
              have kp := iMul_bs (fun h => by omega) (fun h => by omega) (by omega) hx hy hm
              rw [ho.out] at kp
              replace kp := Lib.hid kp
              go_wp2_with fail
              with_reducible refine (kp.out).mono ?_
              rintro e v3 ⟨adp, cdp, rfl, hp, hu3⟩
              replace hx := hx.keep hu3
              replace hy := hy.keep hu3
              replace hm := hm.keep hu3
              replace u := u.trans hu3
              clear hu3
              have kq := sMul_bs (by omega) (by omega) (by omega) hx hy hm
              rw [ho.out] at kq
              replace kq := Lib.hid kq
              go_wp2_with fail
              with_reducible refine (kq.out).mono ?_
              rintro e v4 ⟨adq, cdq, rfl, hq, hu4⟩
              replace hx := hx.keep hu4
              replace hy := hy.keep hu4
              replace hm := hm.keep hu4
              replace hp := hp.keep hu4
              replace u := u.trans hu4
              clear hu4
              go_wp2_with fail
              with_reducible refine (same_eq (by omega) hp hq).mono ?_
              rintro e v5 ⟨rfl, hu5⟩
              replace hx := hx.keep hu5
              replace hy := hy.keep hu5
              replace hm := hm.keep hu5
              replace hp := hp.keep hu5
              replace hq := hq.keep hu5
              replace u := u.trans hu5
              clear hu5
              go_wp2_with fail
              go_ret
              exact ⟨rfl, u⟩
            · clear hc
              go_enter Try.func21, Try.ntmps21
              have u := Upd.refl (fun _ => False) w
              go_wp2_with fail
              with_reducible refine (beyond_no t0 hx hm).mono ?_
              rintro e v1 ⟨rfl, hu1⟩
              replace hx := hx.keep hu1
              replace hy := hy.keep hu1
              replace hm := hm.keep hu1
              replace u := u.trans hu1
              clear hu1
              go_wp2_with fail
              with_reducible refine (beyond_no t1 hy hm).mono ?_
              rintro e v2 ⟨rfl, hu2⟩
              replace hx := hx.keep hu2
              replace hy := hy.keep hu2
              replace hm := hm.keep hu2
              replace u := u.trans hu2
              clear hu2
              have kp := iMul_bs (fun h => by omega) (fun h => by omega) (by omega) hx hy hm
              rw [ho.out] at kp
              replace kp := Lib.hid kp
              go_wp2_with fail
              with_reducible refine (kp.out).mono ?_
              rintro e v3 ⟨rfl, hu3⟩
              replace hx := hx.keep hu3
              replace hy := hy.keep hu3
              replace hm := hm.keep hu3
              replace u := u.trans hu3
              clear hu3
              have kq := sMul_bs (by omega) (by omega) (by omega) hx hy hm
              rw [ho.out] at kq
              replace kq := Lib.hid kq
              go_wp2_with fail
              with_reducible refine (kq.out).mono ?_
              rintro e v4 ⟨rfl, hu4⟩
              replace hx := hx.keep hu4
              replace hy := hy.keep hu4
              replace hm := hm.keep hu4
              replace u := u.trans hu4
              clear hu4
              go_wp2_with fail
              with_reducible refine (same_eq (by omega) (Bs.emp _) (Bs.emp _)).mono ?_
              rintro e v5 ⟨rfl, hu5⟩
              replace hx := hx.keep hu5
              replace hy := hy.keep hu5
              replace hm := hm.keep hu5
              replace u := u.trans hu5
              clear hu5
              go_wp2_with fail
              go_ret
              exact ⟨rfl, u⟩


set_option maxRecDepth 100000 in
set_option maxHeartbeats 4000000 in
theorem law_FnExactMod (ax : Option Addr) (nx cx : Nat) (fx : Nat → Nat) (am : Option Addr) (nm cm : Nat) (fm : Nat → Nat) (w : World) (hfx : ∀ i, i < nx → fx i < 256) (hsx : Sl .u8 w ax nx cx fx) (hfm : ∀ i, i < nm → fm i < 256) (hsm : Sl .u8 w am nm cm fm) :
    Calls Try.prog 18 #[.slice ax nx cx, .slice am nm cm] w (Holds1 w) := by
  obtain ⟨Xx, HXx⟩ : ∃ X, Hid (X = be fx nx) := ⟨_, rfl⟩
  have hx : Bs w ax nx cx Xx := by rw [HXx.out]; exact .mk' hfx hsx
  clear hfx hsx HXx
  obtain ⟨Xm, HXm⟩ : ∃ X, Hid (X = be fm nm) := ⟨_, rfl⟩
  have hm : Bs w am nm cm Xm := by rw [HXm.out]; exact .mk' hfm hsm
  clear hfm hsm HXm
  by_cases s0 : 2147483647 < nx
  · go_enter Try.func18, Try.ntmps18
    go_wp2_with fail
    go_ret
    exact ⟨rfl, .refl _ _⟩
  · skip
    by_cases s1 : 2147483647 < nm
    · go_enter Try.func18, Try.ntmps18
      go_wp2_with fail
      go_ret
      exact ⟨rfl, .refl _ _⟩
    · skip
      by_cases t0 : 300 < nx
      · go_enter Try.func18, Try.ntmps18
        have u := Upd.refl (fun _ => False) w
        go_wp2_with fail
        with_reducible refine (long_yes t0 hx).mono ?_
        rintro e v1 ⟨rfl, hu1⟩
        replace hx := hx.keep hu1
        replace hm := hm.keep hu1
        replace u := u.trans hu1
        clear hu1
        go_wp2_with fail
        go_ret
        exact ⟨rfl, u⟩
      · skip
        by_cases t1 : 300 < nm
        · go_enter Try.func18, Try.ntmps18
          have u := Upd.refl (fun _ => False) w
          go_wp2_with fail
          with_reducible refine (long_no t0 hx).mono ?_
          rintro e v1 ⟨rfl, hu1⟩
          replace hx := hx.keep hu1
          replace hm := hm.keep hu1
          replace u := u.trans hu1
          clear hu1
          go_wp2_with fail
          with_reducible refine (long_yes t1 hm).mono ?_
          rintro e v2 ⟨rfl, hu2⟩
          replace hx := hx.keep hu2
          replace hm := hm.keep hu2
          replace u := u.trans hu2
          clear hu2
          go_wp2_with fail
          go_ret
          exact ⟨rfl, u⟩
        · skip
          have hnb := hm.nb
          rcases optN_ca (1 < Xm) (Xm) (Xx % Xm) with ⟨hc, ho⟩ | ⟨hc, ho⟩
          · clear hc
            go_enter Try.func18, Try.ntmps18
            have u := Upd.refl (fun _ => False) w
            go_wp2_with fail
            with_reducible refine (long_no t0 hx).mono ?_
            rintro e v1 ⟨rfl, hu1⟩
            replace hx := hx.keep hu1
            replace hm := hm.keep hu1
            replace u := u.trans hu1
            clear hu1
            go_wp2_with fail
            with_reducible refine (long_no t1 hm).mono ?_
            rintro e v2 ⟨rfl, hu2⟩
            replace hx := hx.keep hu2
            replace hm := hm.keep hu2
            replace u := u.trans hu2
            clear hu2
            have kp := iMod_bs (by omega) (by omega) hx hm
            rw [ho.out] at kp
            replace kp := Lib.hid kp
            go_wp2_with fail
            with_reducible refine (kp.out).mono ?_
            rintro e v3 ⟨adp, cdp, rfl, hp, hu3⟩
            replace hx := hx.keep hu3
            replace hm := hm.keep hu3
            replace u := u.trans hu3
            clear hu3
            have kq := sMod_bs (by omega) (by omega) hx hm
            rw [ho.out] at kq
            replace kq := Lib.hid kq
            go_wp2_with fail
            with_reducible refine (kq.out).mono ?_
            rintro e v4 ⟨adq, cdq, rfl, hq, hu4⟩
            replace hx := hx.keep hu4
            replace hm := hm.keep hu4
            replace hp := hp.keep hu4
            replace u := u.trans hu4
            clear hu4
            go_wp2_with fail
            with_reducible refine (same_eq (by omega) hp hq).mono ?_
            rintro e v5 ⟨rfl, hu5⟩
            replace hx := hx.keep hu5
            replace hm := hm.keep hu5
            replace hp := hp.keep hu5
            replace hq := hq.keep hu5
            replace u := u.trans hu5
            clear hu5
            go_wp2_with fail
            go_ret
            exact ⟨rfl, u⟩
          · clear hc
            go_enter Try.func18, Try.ntmps18
            have u := Upd.refl (fun _ => False) w
            go_wp2_with fail
            with_reducible refine (long_no t0 hx).mono ?_
            rintro e v1 ⟨rfl, hu1⟩
            replace hx := hx.keep hu1
            replace hm := hm.keep hu1
            replace u := u.trans hu1
            clear hu1
            go_wp2_with fail
            with_reducible refine (long_no t1 hm).mono ?_
            rintro e v2 ⟨rfl, hu2⟩
            replace hx := hx.keep hu2
            replace hm := hm.keep hu2
            replace u := u.trans hu2
            clear hu2
            have kp := iMod_bs (by omega) (by omega) hx hm
            rw [ho.out] at kp
            replace kp := Lib.hid kp
            go_wp2_with fail
            with_reducible refine (kp.out).mono ?_
            rintro e v3 ⟨rfl, hu3⟩
            replace hx := hx.keep hu3
            replace hm := hm.keep hu3
            replace u := u.trans hu3
            clear hu3
            have kq := sMod_bs (by omega) (by omega) hx hm
            rw [ho.out] at kq
            replace kq := Lib.hid kq
            go_wp2_with fail
            with_reducible refine (kq.out).mono ?_
            rintro e v4 ⟨rfl, hu4⟩
            replace hx := hx.keep hu4
            replace hm := hm.keep hu4
            replace u := u.trans hu4
            clear hu4
            go_wp2_with fail
            with_reducible refine (same_eq (by omega) (Bs.emp _) (Bs.emp _)).mono ?_
            rintro e v5 ⟨rfl, hu5⟩
            replace hx := hx.keep hu5
            replace hm := hm.keep hu5
            replace u := u.trans hu5
            clear hu5
            go_wp2_with fail
            go_ret
            exact ⟨rfl, u⟩

set_option maxRecDepth 100000 in
set_option maxHeartbeats 4000000 in
theorem law_FnExactInverse (ax : Option Addr) (nx cx : Nat) (fx : Nat → Nat) (am : Option Addr) (nm cm : Nat) (fm : Nat → Nat) (w : World) (hfx : ∀ i, i < nx → fx i < 256) (hsx : Sl .u8 w ax nx cx fx) (hfm : ∀ i, i < nm → fm i < 256) (hsm : Sl .u8 w am nm cm fm) :
    Calls Try.prog 22 #[.slice ax nx cx, .slice am nm cm] w (Holds1 w) := by
  obtain ⟨Xx, HXx⟩ : ∃ X, Hid (X = be fx nx) := ⟨_, rfl⟩
  have hx : Bs w ax nx cx Xx := by rw [HXx.out]; exact .mk' hfx hsx
  clear hfx hsx HXx
  obtain ⟨Xm, HXm⟩ : ∃ X, Hid (X = be fm nm) := ⟨_, rfl⟩
  have hm : Bs w am nm cm Xm := by rw [HXm.out]; exact .mk' hfm hsm
  clear hfm hsm HXm
  by_cases s0 : 2147483647 < nx
  · go_enter Try.func22, Try.ntmps22
    go_wp2_with fail
    go_ret
    exact ⟨rfl, .refl _ _⟩
  · skip
    by_cases s1 : 2147483647 < nm
    · go_enter Try.func22, Try.ntmps22
      go_wp2_with fail
      go_ret
      exact ⟨rfl, .refl _ _⟩
    · skip
      by_cases t0 : 300 < nm ∨ 300 < nx ∨ (1 < Xm ∧ nb Xm < nx)
      · go_enter Try.func22, Try.ntmps22
        have u := Upd.refl (fun _ => False) w
        go_wp2_with fail
        with_reducible refine (beyond_yes t0 hx hm).mono ?_
        rintro e v1 ⟨rfl, hu1⟩
        replace hx := hx.keep hu1
        replace hm := hm.keep hu1
        replace u := u.trans hu1
        clear hu1
        go_wp2_with fail
        go_ret
        exact ⟨rfl, u⟩
      · skip
        have hnb := hm.nb
        rcases optN_ca (1 < Xm ∧ Xx < Xm ∧ Nat.gcd Xx Xm = 1) (Xm) (invN Xx Xm) with ⟨hc, ho⟩ | ⟨hc, ho⟩
        · clear hc
          go_enter Try.func22, Try.ntmps22
          have u := Upd.refl (fun _ => False) w
          go_wp2_with fail
          with_reducible refine (beyond_no t0 hx hm).mono ?_
          rintro e v1 ⟨rfl, hu1⟩
          replace hx := hx.keep hu1
          replace hm := hm.keep hu1
          replace u := u.trans hu1
          clear hu1
          have kp := iInverse_bs (fun h => by omega) (by omega) hx hm
          rw [ho.out] at kp
          replace kp := Lib.hid kp
          go_wp2_with fail
          with_reducible refine (kp.out).mono ?_
          rintro e v2 ⟨adp, cdp, rfl, hp, hu2⟩
          replace hx := hx.keep hu2
          replace hm := hm.keep hu2
          replace u := u.trans hu2
          clear hu2
          have kq := sInverse_bs (by omega) (by omega) hx hm
          rw [ho.out] at kq
          replace kq := Lib.hid kq
          go_wp2_with fail
          with_reducible refine (kq.out).mono ?_
          rintro e v3 ⟨adq, cdq, rfl, hq, hu3⟩
          replace hx := hx.keep hu3
          replace hm := hm.keep hu3
          replace hp := hp.keep hu3
          replace u := u.trans hu3
          clear hu3
          go_wp2_with fail
          with_reducible refine (same_eq (by omega) hp hq).mono ?_
          rintro e v4 ⟨rfl, hu4⟩
          replace hx := hx.keep hu4
          replace hm := hm.keep hu4
          replace hp := hp.keep hu4
          replace hq := hq.keep hu4
          replace u := u.trans hu4
          clear hu4
          go_wp2_with fail
          go_ret
          exact ⟨rfl, u⟩
        · clear hc
          go_enter Try.func22, Try.ntmps22
          have u := Upd.refl (fun _ => False) w
          go_wp2_with fail
          with_reducible refine (beyond_no t0 hx hm).mono ?_
          rintro e v1 ⟨rfl, hu1⟩
          replace hx := hx.keep hu1
          replace hm := hm.keep hu1
          replace u := u.trans hu1
          clear hu1
          have kp := iInverse_bs (fun h => by omega) (by omega) hx hm
          rw [ho.out] at kp
          replace kp := Lib.hid kp
          go_wp2_with fail
          with_reducible refine (kp.out).mono ?_
          rintro e v2 ⟨rfl, hu2⟩
          replace hx := hx.keep hu2
          replace hm := hm.keep hu2
          replace u := u.trans hu2
          clear hu2
          have kq := sInverse_bs (by omega) (by omega) hx hm
          rw [ho.out] at kq
          replace kq := Lib.hid kq
          go_wp2_with fail
          with_reducible refine (kq.out).mono ?_
          rintro e v3 ⟨rfl, hu3⟩
          replace hx := hx.keep hu3
          replace hm := hm.keep hu3
          replace u := u.trans hu3
          clear hu3
          go_wp2_with fail
          with_reducible refine (same_eq (by omega) (Bs.emp _) (Bs.emp _)).mono ?_
          rintro e v4 ⟨rfl, hu4⟩
          replace hx := hx.keep hu4
          replace hm := hm.keep hu4
          replace u := u.trans hu4
          clear hu4
          go_wp2_with fail
          go_ret
          exact ⟨rfl, u⟩

set_option maxRecDepth 100000 in
set_option maxHeartbeats 4000000 in
theorem law_FnExactModulusProduct (aa : Option Addr) (na ca : Nat) (fa : Nat → Nat) (ab : Option Addr) (nb cb : Nat) (fb : Nat → Nat) (w : World) (hfa : ∀ i, i < na → fa i < 256) (hsa : Sl .u8 w aa na ca fa) (hfb : ∀ i, i < nb → fb i < 256) (hsb : Sl .u8 w ab nb cb fb) :
    Calls Try.prog 8 #[.slice aa na ca, .slice ab nb cb] w (Holds1 w) := by
  obtain ⟨Xa, HXa⟩ : ∃ X, Hid (X = be fa na) := ⟨_, rfl⟩
  have ha : Bs w aa na ca Xa := by rw [HXa.out]; exact .mk' hfa hsa
  clear hfa hsa HXa
  obtain ⟨Xb, HXb⟩ : ∃ X, Hid (X = be fb nb) := ⟨_, rfl⟩
  have hb : Bs w ab nb cb Xb := by rw [HXb.out]; exact .mk' hfb hsb
  clear hfb hsb HXb
  by_cases s0 : 2147483647 < na
  · go_enter Try.func8, Try.ntmps8
    go_wp2_with fail
    go_ret
    exact ⟨rfl, .refl _ _⟩
  · skip
    by_cases s1 : 2147483647 < nb
    · go_enter Try.func8, Try.ntmps8
      go_wp2_with fail
      go_ret
      exact ⟨rfl, .refl _ _⟩
    · skip
      by_cases t0 : 300 < na
      · go_enter Try.func8, Try.ntmps8
        have u := Upd.refl (fun _ => False) w
        go_wp2_with fail
        with_reducible refine (long_yes t0 ha).mono ?_
        rintro e v1 ⟨rfl, hu1⟩
        replace ha := ha.keep hu1
        replace hb := hb.keep hu1
        replace u := u.trans hu1
        clear hu1
        go_wp2_with fail
        go_ret
        exact ⟨rfl, u⟩
      · skip
        by_cases t1 : 300 < nb
        · go_enter Try.func8, Try.ntmps8
          have u := Upd.refl (fun _ => False) w
          go_wp2_with fail
          with_reducible refine (long_no t0 ha).mono ?_
          rintro e v1 ⟨rfl, hu1⟩
          replace ha := ha.keep hu1
          replace hb := hb.keep hu1
          replace u := u.trans hu1
          clear hu1
          go_wp2_with fail
          with_reducible refine (long_yes t1 hb).mono ?_
          rintro e v2 ⟨rfl, hu2⟩
          replace ha := ha.keep hu2
          replace hb := hb.keep hu2
          replace u := u.trans hu2
          clear hu2
          go_wp2_with fail
          go_ret
          exact ⟨rfl, u⟩
        · skip
          by_cases t2 : Xa = 0
          · go_enter Try.func8, Try.ntmps8
            have u := Upd.refl (fun _ => False) w
            go_wp2_with fail
            with_reducible refine (long_no t0 ha).mono ?_
            rintro e v1 ⟨rfl, hu1⟩
            replace ha := ha.keep hu1
            replace hb := hb.keep hu1
            replace u := u.trans hu1
            clear hu1
            go_wp2_with fail
            with_reducible refine (long_no t1 hb).mono ?_
            rintro e v2 ⟨rfl, hu2⟩
            replace ha := ha.keep hu2
            replace hb := hb.keep hu2
            replace u := u.trans hu2
            clear hu2
            go_wp2_with fail
            with_reducible refine (zero_yes (by omega) ha t2).mono ?_
            rintro e v3 ⟨rfl, hu3⟩
            replace ha := ha.keep hu3
            replace hb := hb.keep hu3
            replace u := u.trans hu3
            clear hu3
            go_wp2_with fail
            go_ret
            exact ⟨rfl, u⟩
          · skip
            by_cases t3 : Xb = 0
            · go_enter Try.func8, Try.ntmps8
              have u := Upd.refl (fun _ => False) w
              go_wp2_with fail
              with_reducible refine (long_no t0 ha).mono ?_
              rintro e v1 ⟨rfl, hu1⟩
              replace ha := ha.keep hu1
              replace hb := hb.keep hu1
              replace u := u.trans hu1
              clear hu1
              go_wp2_with fail
              with_reducible refine (long_no t1 hb).mono ?_
              rintro e v2 ⟨rfl, hu2⟩
              replace ha := ha.keep hu2
              replace hb := hb.keep hu2
              replace u := u.trans hu2
              clear hu2
              go_wp2_with fail
              with_reducible refine (zero_no (by omega) ha t2).mono ?_
              rintro e v3 ⟨rfl, hu3⟩
              replace ha := ha.keep hu3
              replace hb := hb.keep hu3
              replace u := u.trans hu3
              clear hu3
              go_wp2_with fail
              with_reducible refine (zero_yes (by omega) hb t3).mono ?_
              rintro e v4 ⟨rfl, hu4⟩
              replace ha := ha.keep hu4
              replace hb := hb.keep hu4
              replace u := u.trans hu4
              clear hu4
              go_wp2_with fail
              go_ret
              exact ⟨rfl, u⟩
            · skip
              have hnb := nb_mul_le Xa Xb
              have hna1 := ha.nb
              have hnb1 := hb.nb
              rcases optN_ca (1 < Xa * Xb) ((Xa * Xb)) (Xa * Xb) with ⟨hc, ho⟩ | ⟨hc, ho⟩
              · clear hc
                go_enter Try.func8, Try.ntmps8
                have u := Upd.refl (fun _ => False) w
                go_wp2_with fail
                with_reducible refine (long_no t0 ha).mono ?_
                rintro e v1 ⟨rfl, hu1⟩
                replace ha := ha.keep hu1
                replace hb := hb.keep hu1
                replace u := u.trans hu1
                clear hu1
                go_wp2_with fail
                with_reducible refine (long_no t1 hb).mono ?_
                rintro e v2 ⟨rfl, hu2⟩
                replace ha := ha.keep hu2
                replace hb := hb.keep hu2
                replace u := u.trans hu2
                clear hu2
                go_wp2_with fail
                with_reducible refine (zero_no (by omega) ha t2).mono ?_
                rintro e v3 ⟨rfl, hu3⟩
                replace ha := ha.keep hu3
                replace hb := hb.keep hu3
                replace u := u.trans hu3
                clear hu3
                go_wp2_with fail
                with_reducible refine (zero_no (by omega) hb t3).mono ?_
                rintro e v4 ⟨rfl, hu4⟩
                replace ha := ha.keep hu4
                replace hb := hb.keep hu4
                replace u := u.trans hu4
                clear hu4
                have kp := iModulusProduct_bs (by omega) (by omega) (by omega) (by omega) ha hb
                rw [ho.out] at kp
                replace kp := Lib.hid kp
                go_wp2_with fail
                with_reducible refine (kp.out).mono ?_
                rintro e v5 ⟨adp, cdp, rfl, hp, hu5⟩
                replace ha := ha.keep hu5
                replace hb := hb.keep hu5
                replace u := u.trans hu5
                clear hu5
                have kq := sModulusProduct_bs (by omega) (by omega) ha hb
                rw [ho.out] at kq
                replace kq := Lib.hid kq
                go_wp2_with fail
                with_reducible refine (kq.out).mono ?_
                rintro e v6 ⟨adq, cdq, rfl, hq, hu6⟩
                replace ha := ha.keep hu6
                replace hb := hb.keep hu6
                replace hp := hp.keep hu6
                replace u := u.trans hu6
                clear hu6
                go_wp2_with fail
                with_reducible refine (same_eq (by omega) hp hq).mono ?_
                rintro e v7 ⟨rfl, hu7⟩
                replace ha := ha.keep hu7
                replace hb := hb.keep hu7
                replace hp := hp.keep hu7
                replace hq := hq.keep hu7
                replace u := u.trans hu7
                clear hu7
                go_wp2_with fail
                go_ret
                exact ⟨rfl, u⟩
              · clear hc
                go_enter Try.func8, Try.ntmps8
                have u := Upd.refl (fun _ => False) w
                go_wp2_with fail
                with_reducible refine (long_no t0 ha).mono ?_
                rintro e v1 ⟨rfl, hu1⟩
                replace ha := ha.keep hu1
                replace hb := hb.keep hu1
                replace u := u.trans hu1
                clear hu1
                go_wp2_with fail
                with_reducible refine (long_no t1 hb).mono ?_
                rintro e v2 ⟨rfl, hu2⟩
                replace ha := ha.keep hu2
                replace hb := hb.keep hu2
                replace u := u.trans hu2
                clear hu2
                go_wp2_with fail
                with_reducible refine (zero_no (by omega) ha t2).mono ?_
                rintro e v3 ⟨rfl, hu3⟩
                replace ha := ha.keep hu3
                replace hb := hb.keep hu3
                replace u := u.trans hu3
                clear hu3
                go_wp2_with fail
                with_reducible refine (zero_no (by omega) hb t3).mono ?_
                rintro e v4 ⟨rfl, hu4⟩
                replace ha := ha.keep hu4
                replace hb := hb.keep hu4
                replace u := u.trans hu4
                clear hu4
                have kp := iModulusProduct_bs (by omega) (by omega) (by omega) (by omega) ha hb
                rw [ho.out] at kp
                replace kp := Lib.hid kp
                go_wp2_with fail
                with_reducible refine (kp.out).mono ?_
                rintro e v5 ⟨rfl, hu5⟩
                replace ha := ha.keep hu5
                replace hb := hb.keep hu5
                replace u := u.trans hu5
                clear hu5
                have kq := sModulusProduct_bs (by omega) (by omega) ha hb
                rw [ho.out] at kq
                replace kq := Lib.hid kq
                go_wp2_with fail
                with_reducible refine (kq.out).mono ?_
                rintro e v6 ⟨rfl, hu6⟩
                replace ha := ha.keep hu6
                replace hb := hb.keep hu6
                replace u := u.trans hu6
                clear hu6
                go_wp2_with fail
                with_reducible refine (same_eq (by omega) (Bs.emp _) (Bs.emp _)).mono ?_
                rintro e v7 ⟨rfl, hu7⟩
                replace ha := ha.keep hu7
                replace hb := hb.keep hu7
                replace u := u.trans hu7
                clear hu7
                go_wp2_with fail
                go_ret
                exact ⟨rfl, u⟩

set_option maxRecDepth 100000 in
set_option maxHeartbeats 4000000 in
theorem law_FnExactExpShort (ax : Option Addr) (nx cx : Nat) (fx : Nat → Nat) (e : Int) (am : Option Addr) (nm cm : Nat) (fm : Nat → Nat) (w : World) (hfx : ∀ i, i < nx → fx i < 256) (hsx : Sl .u8 w ax nx cx fx) (bnde : -9223372036854775808 ≤ e ∧ e ≤ 9223372036854775807) (hfm : ∀ i, i < nm → fm i < 256) (hsm : Sl .u8 w am nm cm fm) :
    Calls Try.prog 20 #[.slice ax nx cx, .int .i64 e, .slice am nm cm] w (Holds1 w) := by
  obtain ⟨Xx, HXx⟩ : ∃ X, Hid (X = be fx nx) := ⟨_, rfl⟩
  have hx : Bs w ax nx cx Xx := by rw [HXx.out]; exact .mk' hfx hsx
  clear hfx hsx HXx
  obtain ⟨Xm, HXm⟩ : ∃ X, Hid (X = be fm nm) := ⟨_, rfl⟩
  have hm : Bs w am nm cm Xm := by rw [HXm.out]; exact .mk' hfm hsm
  clear hfm hsm HXm
  by_cases s0 : 2147483647 < nx
  · go_enter Try.func20, Try.ntmps20
    go_wp2_with fail
    go_ret
    exact ⟨rfl, .refl _ _⟩
  · skip
    by_cases s1 : 2147483647 < nm
    · go_enter Try.func20, Try.ntmps20
      go_wp2_with fail
      go_ret
      exact ⟨rfl, .refl _ _⟩
    · skip
      by_cases t0 : 300 < nm ∨ 300 < nx ∨ (1 < Xm ∧ nb Xm < nx)
      · go_enter Try.func20, Try.ntmps20
        have u := Upd.refl (fun _ => False) w
        go_wp2_with fail
        with_reducible refine (beyond_yes t0 hx hm).mono ?_
        rintro e v1 ⟨rfl, hu1⟩
        replace hx := hx.keep hu1
        replace hm := hm.keep hu1
        replace u := u.trans hu1
        clear hu1
        go_wp2_with fail
        go_ret
        exact ⟨rfl, u⟩
      · skip
        by_cases t1 : e = 0
        · go_enter Try.func20, Try.ntmps20
          have u := Upd.refl (fun _ => False) w
          go_wp2_with fail
          with_reducible refine (beyond_no t0 hx hm).mono ?_
          rintro e v1 ⟨rfl, hu1⟩
          replace hx := hx.keep hu1
          replace hm := hm.keep hu1
          replace u := u.trans hu1
          clear hu1
          go_wp2_with fail
          go_ret
          exact ⟨rfl, u⟩
        · skip
          by_cases hn : e < 0
          · go_enter Try.func20, Try.ntmps20
            have u := Upd.refl (fun _ => False) w
            go_wp2_with fail
            with_reducible refine (beyond_no t0 hx hm).mono ?_
            rintro e v1 ⟨rfl, hu1⟩
            replace hx := hx.keep hu1
            replace hm := hm.keep hu1
            replace u := u.trans hu1
            clear hu1
            go_wp2_with fail
            with_reducible refine (iExpShort_neg (fun h => by omega) (by omega) hx hm hn).mono ?_
            rintro e v2 ⟨rfl, hu2⟩
            replace hx := hx.keep hu2
            replace hm := hm.keep hu2
            replace u := u.trans hu2
            clear hu2
            go_wp2_with fail
            with_reducible refine (sExpShort_neg hn).mono ?_
            rintro e v3 ⟨rfl, hu3⟩
            replace hx := hx.keep hu3
            replace hm := hm.keep hu3
            replace u := u.trans hu3
            clear hu3
            go_wp2_with fail
            with_reducible refine (same_eq (by omega) (Bs.emp _) (Bs.emp _)).mono ?_
            rintro e v4 ⟨rfl, hu4⟩
            replace hx := hx.keep hu4
            replace hm := hm.keep hu4
            replace u := u.trans hu4
            clear hu4
            go_wp2_with fail
            go_ret
            exact ⟨rfl, u⟩
          · obtain ⟨E, rfl⟩ : ∃ E : Nat, e = (E : Int) := ⟨e.toNat, by omega⟩
            have hE1 : 1 ≤ E := by omega
            have hE2 : E ≤ 9223372036854775807 := by omega
            have hnb := hm.nb
            rcases optN_ca (1 < Xm ∧ Xx < Xm ∧ Xm % 2 = 1) (Xm) (Xx ^ E % Xm) with ⟨hc, ho⟩ | ⟨hc, ho⟩
            · clear hc
              go_enter Try.func20, Try.ntmps20
              have u := Upd.refl (fun _ => False) w
              go_wp2_with fail
              with_reducible refine (beyond_no t0 hx hm).mono ?_
              rintro e v1 ⟨rfl, hu1⟩
              replace hx := hx.keep hu1
              replace hm := hm.keep hu1
              replace u := u.trans hu1
              clear hu1
              have kp := iExpShort_bs (fun h => by omega) hE1 hE2 (by omega) hx hm
              rw [ho.out] at kp
              replace kp := Lib.hid kp
              go_wp2_with fail
              with_reducible refine (kp.out).mono ?_
              rintro e v2 ⟨adp, cdp, rfl, hp, hu2⟩
              replace hx := hx.keep hu2
              replace hm := hm.keep hu2
              replace u := u.trans hu2
              clear hu2
              have kq := sExpShort_bs (by omega) hE2 (by omega) hx hm
              rw [ho.out] at kq
              replace kq := Lib.hid kq
              go_wp2_with fail
              with_reducible refine (kq.out).mono ?_
              rintro e v3 ⟨adq, cdq, rfl, hq, hu3⟩
              replace hx := hx.keep hu3
              replace hm := hm.keep hu3
              replace hp := hp.keep hu3
              replace u := u.trans hu3
              clear hu3
              go_wp2_with fail
              with_reducible refine (same_eq (by omega) hp hq).mono ?_
              rintro e v4 ⟨rfl, hu4⟩
              replace hx := hx.keep hu4
              replace hm := hm.keep hu4
              replace hp := hp.keep hu4
              replace hq := hq.keep hu4
              replace u := u.trans hu4
              clear hu4
              go_wp2_with fail
              go_ret
              exact ⟨rfl, u⟩
            · clear hc
              go_enter Try.func20, Try.ntmps20
              have u := Upd.refl (fun _ => False) w
              go_wp2_with fail
              with_reducible refine (beyond_no t0 hx hm).mono ?_
              rintro e v1 ⟨rfl, hu1⟩
              replace hx := hx.keep hu1
              replace hm := hm.keep hu1
              replace u := u.trans hu1
              clear hu1
              have kp := iExpShort_bs (fun h => by omega) hE1 hE2 (by omega) hx hm
              rw [ho.out] at kp
              replace kp := Lib.hid kp
              go_wp2_with fail
              with_reducible refine (kp.out).mono ?_
              rintro e v2 ⟨rfl, hu2⟩
              replace hx := hx.keep hu2
              replace hm := hm.keep hu2
              replace u := u.trans hu2
              clear hu2
              have kq := sExpShort_bs (by omega) hE2 (by omega) hx hm
              rw [ho.out] at kq
              replace kq := Lib.hid kq
              go_wp2_with fail
              with_reducible refine (kq.out).mono ?_
              rintro e v3 ⟨rfl, hu3⟩
              replace hx := hx.keep hu3
              replace hm := hm.keep hu3
              replace u := u.trans hu3
              clear hu3
              go_wp2_with fail
              with_reducible refine (same_eq (by omega) (Bs.emp _) (Bs.emp _)).mono ?_
              rintro e v4 ⟨rfl, hu4⟩
              replace hx := hx.keep hu4
              replace hm := hm.keep hu4
              replace u := u.trans hu4
              clear hu4
              go_wp2_with fail
              go_ret
              exact ⟨rfl, u⟩

end Go.Proofs.Ytmbghmjllipbhaa
