/-
  The laws FnExactExp, FnExactExpSelf.
-/
import Derived.Test.YtiiihhohfgepfaaLwIn
import Derived.Test.YtiiihhohfgepfaaImpD
import Derived.Test.YtiiihhohfgepfaaSpecL
namespace Go.Proofs.Ytiiihhohfgepfaa
open Go.RowKit


set_option maxRecDepth 100000 in
set_option maxHeartbeats 4000000 in
theorem law_FnExactExpSelf (ax : Option Addr) (nx cx : Nat) (fx : Nat → Nat) (ae : Option Addr) (ne ce : Nat) (fe : Nat → Nat) (am : Option Addr) (nm cm : Nat) (fm : Nat → Nat) (w : World) (hfx : ∀ i, i < nx → fx i < 256) (hsx : Sl .u8 w ax nx cx fx) (hfe : ∀ i, i < ne → fe i < 256) (hse : Sl .u8 w ae ne ce fe) (hfm : ∀ i, i < nm → fm i < 256) (hsm : Sl .u8 w am nm cm fm) :
    Calls Try.prog 12 #[.slice ax nx cx, .slice ae ne ce, .slice am nm cm] w (Holds1 w) := by
  obtain ⟨Xx, HXx⟩ : ∃ X, Hid (X = be fx nx) := ⟨_, rfl⟩
  have hx : Bs w ax nx cx Xx := by rw [HXx.out]; exact .mk' hfx hsx
  clear hfx hsx HXx
  obtain ⟨Xe, HXe⟩ : ∃ X, Hid (X = be fe ne) := ⟨_, rfl⟩
  have he : Bs w ae ne ce Xe := by rw [HXe.out]; exact .mk' hfe hse
  clear hfe hse HXe
  obtain ⟨Xm, HXm⟩ : ∃ X, Hid (X = be fm nm) := ⟨_, rfl⟩
  have hm : Bs w am nm cm Xm := by rw [HXm.out]; exact .mk' hfm hsm
  clear hfm hsm HXm
  by_cases s0 : 2147483647 < nx
  · go_enter Try.func12, Try.ntmps12
    go_wp2_with fail
    go_ret
    exact ⟨rfl, .refl _ _⟩
  · skip
    by_cases s1 : 2147483647 < ne
    · go_enter Try.func12, Try.ntmps12
      go_wp2_with fail
      go_ret
      exact ⟨rfl, .refl _ _⟩
    · skip
      by_cases s2 : 2147483647 < nm
      · go_enter Try.func12, Try.ntmps12
        go_wp2_with fail
        go_ret
        exact ⟨rfl, .refl _ _⟩
      · skip
        by_cases t0 : 300 < nm ∨ 300 < nx ∨ (1 < Xm ∧ nb Xm < nx)
        · go_enter Try.func12, Try.ntmps12
          have u := Upd.refl (fun _ => False) w
          go_wp2_with fail
          with_reducible refine (beyond_yes t0 hx hm).mono ?_
          rintro e v1 ⟨rfl, hu1⟩
          replace hx := hx.keep hu1
          replace he := he.keep hu1
          replace hm := hm.keep hu1
          replace u := u.trans hu1
          clear hu1
          go_wp2_with fail
          go_ret
          exact ⟨rfl, u⟩
        · skip
          by_cases t1 : 40 < ne
          · go_enter Try.func12, Try.ntmps12
            have u := Upd.refl (fun _ => False) w
            go_wp2_with fail
            with_reducible refine (beyond_no t0 hx hm).mono ?_
            rintro e v1 ⟨rfl, hu1⟩
            replace hx := hx.keep hu1
            replace he := he.keep hu1
            replace hm := hm.keep hu1
            replace u := u.trans hu1
            clear hu1
            go_wp2_with fail
            go_ret
            exact ⟨rfl, u⟩
          · skip
            have hnb := hm.nb
            rcases optN_ca (1 < Xm ∧ Xx < Xm ∧ Xm % 2 = 1) (Xm) (Xx ^ Xe % Xm) with ⟨hc, ho⟩ | ⟨hc, ho⟩
            · clear hc
              go_enter Try.func12, Try.ntmps12
              have u := Upd.refl (fun _ => False) w
              go_wp2_with fail
              with_reducible refine (beyond_no t0 hx hm).mono ?_
              rintro e v1 ⟨rfl, hu1⟩
              replace hx := hx.keep hu1
              replace he := he.keep hu1
              replace hm := hm.keep hu1
              replace u := u.trans hu1
              clear hu1
              have kp := iExpSelf_bs (fun h => by omega) (by omega) (by omega) hx he hm
              rw [ho.out] at kp
              replace kp := Lib.hid kp
              go_wp2_with fail
              with_reducible refine (kp.out).mono ?_
              rintro e v2 ⟨adp, cdp, rfl, hp, hu2⟩
              replace hx := hx.keep hu2
              replace he := he.keep hu2
              replace hm := hm.keep hu2
              replace u := u.trans hu2
              clear hu2
              have kq := sExp_bs (by omega) (by omega) (by omega) hx he hm
              rw [ho.out] at kq
              replace kq := Lib.hid kq
              go_wp2_with fail
              with_reducible refine (kq.out).mono ?_
              rintro e v3 ⟨adq, cdq, rfl, hq, hu3⟩
              replace hx := hx.keep hu3
              replace he := he.keep hu3
              replace hm := hm.keep hu3
              replace hp := hp.keep hu3
              replace u := u.trans hu3
              clear hu3
              go_wp2_with fail
              with_reducible refine (same_eq (by omega) hp hq).mono ?_
              rintro e v4 ⟨rfl, hu4⟩
              replace hx := hx.keep hu4
              replace he := he.keep hu4
              replace hm := hm.keep hu4
              replace hp := hp.keep hu4
              replace hq := hq.keep hu4
              replace u := u.trans hu4
              clear hu4
              go_wp2_with fail
              go_ret
              exact ⟨rfl, u⟩
            · clear hc
              go_enter Try.func12, Try.ntmps12
              have u := Upd.refl (fun _ => False) w
              go_wp2_with fail
              with_reducible refine (beyond_no t0 hx hm).mono ?_
              rintro e v1 ⟨rfl, hu1⟩
              replace hx := hx.keep hu1
              replace he := he.keep hu1
              replace hm := hm.keep hu1
              replace u := u.trans hu1
              clear hu1
              have kp := iExpSelf_bs (fun h => by omega) (by omega) (by omega) hx he hm
              rw [ho.out] at kp
              replace kp := Lib.hid kp
              go_wp2_with fail
              with_reducible refine (kp.out).mono ?_
              rintro e v2 ⟨rfl, hu2⟩
              replace hx := hx.keep hu2
              replace he := he.keep hu2
              replace hm := hm.keep hu2
              replace u := u.trans hu2
              clear hu2
              have kq := sExp_bs (by omega) (by omega) (by omega) hx he hm
              rw [ho.out] at kq
              replace kq := Lib.hid kq
              go_wp2_with fail
              with_reducible refine (kq.out).mono ?_
              rintro e v3 ⟨rfl, hu3⟩
              replace hx := hx.keep hu3
              replace he := he.keep hu3
              replace hm := hm.keep hu3
              replace u := u.trans hu3
              clear hu3
              go_wp2_with fail
              with_reducible refine (same_eq (by omega) (Bs.emp _) (Bs.emp _)).mono ?_
              rintro e v4 ⟨rfl, hu4⟩
              replace hx := hx.keep hu4
              replace he := he.keep hu4
              replace hm := hm.keep hu4
              replace u := u.trans hu4
              clear hu4
              go_wp2_with fail
              go_ret
              exact ⟨rfl, u⟩

end Go.Proofs.Ytiiihhohfgepfaa
