/-
  The laws FnExactGCD, FnGCDOrder.
-/
import Derived.Test.YtmbghmjllipbhaaLwBase
import Derived.Test.YtmbghmjllipbhaaGcdC
namespace Go.Proofs.Ytmbghmjllipbhaa
open Go.RowKit

set_option maxRecDepth 100000 in
set_option maxHeartbeats 4000000 in
theorem law_FnExactGCD (ax : Option Addr) (nx cx : Nat) (fx : Nat → Nat) (ay : Option Addr) (ny cy : Nat) (fy : Nat → Nat) (w : World) (hfx : ∀ i, i < nx → fx i < 256) (hsx : Sl .u8 w ax nx cx fx) (hfy : ∀ i, i < ny → fy i < 256) (hsy : Sl .u8 w ay ny cy fy) :
    Calls Try.prog 4 #[.slice ax nx cx, .slice ay ny cy] w (Holds1 w) := by
  obtain ⟨Xx, HXx⟩ : ∃ X, Hid (X = be fx nx) := ⟨_, rfl⟩
  have hx : Bs w ax nx cx Xx := by rw [HXx.out]; exact .mk' hfx hsx
  clear hfx hsx HXx
  obtain ⟨Xy, HXy⟩ : ∃ X, Hid (X = be fy ny) := ⟨_, rfl⟩
  have hy : Bs w ay ny cy Xy := by rw [HXy.out]; exact .mk' hfy hsy
  clear hfy hsy HXy
  by_cases s0 : 2147483647 < nx
  · go_enter Try.func4, Try.ntmps4
    go_wp2_with fail
    go_ret
    exact ⟨rfl, .refl _ _⟩
  · skip
    by_cases s1 : 2147483647 < ny
    · go_enter Try.func4, Try.ntmps4
      go_wp2_with fail
      go_ret
      exact ⟨rfl, .refl _ _⟩
    · skip
      by_cases t0 : 300 < nx
      · go_enter Try.func4, Try.ntmps4
        have u := Upd.refl (fun _ => False) w
        go_wp2_with fail
        with_reducible refine (long_yes t0 hx).mono ?_
        rintro e v1 ⟨rfl, hu1⟩
        replace hx := hx.keep hu1
        replace hy := hy.keep hu1
        replace u := u.trans hu1
        clear hu1
        go_wp2_with fail
        go_ret
        exact ⟨rfl, u⟩
      · skip
        by_cases t1 : 300 < ny
        · go_enter Try.func4, Try.ntmps4
          have u := Upd.refl (fun _ => False) w
          go_wp2_with fail
          with_reducible refine (long_no t0 hx).mono ?_
          rintro e v1 ⟨rfl, hu1⟩
          replace hx := hx.keep hu1
          replace hy := hy.keep hu1
          replace u := u.trans hu1
          clear hu1
          go_wp2_with fail
          with_reducible refine (long_yes t1 hy).mono ?_
          rintro e v2 ⟨rfl, hu2⟩
          replace hx := hx.keep hu2
          replace hy := hy.keep hu2
          replace u := u.trans hu2
          clear hu2
          go_wp2_with fail
          go_ret
          exact ⟨rfl, u⟩
        · skip
          rcases gcdO_cases hx hy with hO | ⟨S, N, hS, hO⟩
          · go_enter Try.func4, Try.ntmps4
            have u := Upd.refl (fun _ => False) w
            go_wp2_with fail
            with_reducible refine (long_no t0 hx).mono ?_
            rintro e v1 ⟨rfl, hu1⟩
            replace hx := hx.keep hu1
            replace hy := hy.keep hu1
            replace u := u.trans hu1
            clear hu1
            go_wp2_with fail
            with_reducible refine (long_no t1 hy).mono ?_
            rintro e v2 ⟨rfl, hu2⟩
            replace hx := hx.keep hu2
            replace hy := hy.keep hu2
            replace u := u.trans hu2
            clear hu2
            have k1 := iGCD_bs (by omega) (by omega) hx hy
            rw [hO.out] at k1
            replace k1 := Lib.hid k1
            go_wp2_with fail
            with_reducible refine (k1.out).mono ?_
            rintro e v3 ⟨rfl, hu3⟩
            replace hx := hx.keep hu3
            replace hy := hy.keep hu3
            replace u := u.trans hu3
            clear hu3
            have k2 := sGCD_bs (by omega) (by omega) hx hy
            rw [hO.out] at k2
            replace k2 := Lib.hid k2
            go_wp2_with fail
            with_reducible refine (k2.out).mono ?_
            rintro e v4 ⟨rfl, hu4⟩
            replace hx := hx.keep hu4
            replace hy := hy.keep hu4
            replace u := u.trans hu4
            clear hu4
            go_wp2_with fail
            with_reducible refine (same_eq (by omega) (Bs.emp _) (Bs.emp _)).mono ?_
            rintro e v5 ⟨rfl, hu5⟩
            replace hx := hx.keep hu5
            replace hy := hy.keep hu5
            replace u := u.trans hu5
            clear hu5
            go_wp2_with fail
            go_ret
            exact ⟨rfl, u⟩
          · go_enter Try.func4, Try.ntmps4
            have u := Upd.refl (fun _ => False) w
            go_wp2_with fail
            with_reducible refine (long_no t0 hx).mono ?_
            rintro e v1 ⟨rfl, hu1⟩
            replace hx := hx.keep hu1
            replace hy := hy.keep hu1
            replace u := u.trans hu1
            clear hu1
            go_wp2_with fail
            with_reducible refine (long_no t1 hy).mono ?_
            rintro e v2 ⟨rfl, hu2⟩
            replace hx := hx.keep hu2
            replace hy := hy.keep hu2
            replace u := u.trans hu2
            clear hu2
            have k1 := iGCD_bs (by omega) (by omega) hx hy
            rw [hO.out] at k1
            replace k1 := Lib.hid k1
            go_wp2_with fail
            with_reducible refine (k1.out).mono ?_
            rintro e v3 ⟨ap, cp, rfl, hp, hu3⟩
            replace hx := hx.keep hu3
            replace hy := hy.keep hu3
            replace u := u.trans hu3
            clear hu3
            have k2 := sGCD_bs (by omega) (by omega) hx hy
            rw [hO.out] at k2
            replace k2 := Lib.hid k2
            go_wp2_with fail
            with_reducible refine (k2.out).mono ?_
            rintro e v4 ⟨aq, cq, rfl, hq, hu4⟩
            replace hx := hx.keep hu4
            replace hy := hy.keep hu4
            replace hp := hp.keep hu4
            replace u := u.trans hu4
            clear hu4
            go_wp2_with fail
            with_reducible refine (same_eq (by omega) hp hq).mono ?_
            rintro e v5 ⟨rfl, hu5⟩
            replace hx := hx.keep hu5
            replace hy := hy.keep hu5
            replace hp := hp.keep hu5
            replace hq := hq.keep hu5
            replace u := u.trans hu5
            clear hu5
            go_wp2_with fail
            go_ret
            exact ⟨rfl, u⟩

set_option maxRecDepth 100000 in
set_option maxHeartbeats 4000000 in
theorem law_FnGCDOrder (ax : Option Addr) (nx cx : Nat) (fx : Nat → Nat) (ay : Option Addr) (ny cy : Nat) (fy : Nat → Nat) (w : World) (hfx : ∀ i, i < nx → fx i < 256) (hsx : Sl .u8 w ax nx cx fx) (hfy : ∀ i, i < ny → fy i < 256) (hsy : Sl .u8 w ay ny cy fy) :
    Calls Try.prog 5 #[.slice ax nx cx, .slice ay ny cy] w (Holds1 w) := by
  obtain ⟨Xx, HXx⟩ : ∃ X, Hid (X = be fx nx) := ⟨_, rfl⟩
  have hx : Bs w ax nx cx Xx := by rw [HXx.out]; exact .mk' hfx hsx
  clear hfx hsx HXx
  obtain ⟨Xy, HXy⟩ : ∃ X, Hid (X = be fy ny) := ⟨_, rfl⟩
  have hy : Bs w ay ny cy Xy := by rw [HXy.out]; exact .mk' hfy hsy
  clear hfy hsy HXy
  by_cases s0 : 2147483647 < nx
  · go_enter Try.func5, Try.ntmps5
    go_wp2_with fail
    go_ret
    exact ⟨rfl, .refl _ _⟩
  · skip
    by_cases s1 : 2147483647 < ny
    · go_enter Try.func5, Try.ntmps5
      go_wp2_with fail
      go_ret
      exact ⟨rfl, .refl _ _⟩
    · skip
      by_cases t0 : 300 < nx
      · go_enter Try.func5, Try.ntmps5
        have u := Upd.refl (fun _ => False) w
        go_wp2_with fail
        with_reducible refine (long_yes t0 hx).mono ?_
        rintro e v1 ⟨rfl, hu1⟩
        replace hx := hx.keep hu1
        replace hy := hy.keep hu1
        replace u := u.trans hu1
        clear hu1
        go_wp2_with fail
        go_ret
        exact ⟨rfl, u⟩
      · skip
        by_cases t1 : 300 < ny
        · go_enter Try.func5, Try.ntmps5
          have u := Upd.refl (fun _ => False) w
          go_wp2_with fail
          with_reducible refine (long_no t0 hx).mono ?_
          rintro e v1 ⟨rfl, hu1⟩
          replace hx := hx.keep hu1
          replace hy := hy.keep hu1
          replace u := u.trans hu1
          clear hu1
          go_wp2_with fail
          with_reducible refine (long_yes t1 hy).mono ?_
          rintro e v2 ⟨rfl, hu2⟩
          replace hx := hx.keep hu2
          replace hy := hy.keep hu2
          replace u := u.trans hu2
          clear hu2
          go_wp2_with fail
          go_ret
          exact ⟨rfl, u⟩
        · skip
          by_cases t2 : Xx = 0
          · go_enter Try.func5, Try.ntmps5
            have u := Upd.refl (fun _ => False) w
            go_wp2_with fail
            with_reducible refine (long_no t0 hx).mono ?_
            rintro e v1 ⟨rfl, hu1⟩
            replace hx := hx.keep hu1
            replace hy := hy.keep hu1
            replace u := u.trans hu1
            clear hu1
            go_wp2_with fail
            with_reducible refine (long_no t1 hy).mono ?_
            rintro e v2 ⟨rfl, hu2⟩
            replace hx := hx.keep hu2
            replace hy := hy.keep hu2
            replace u := u.trans hu2
            clear hu2
            go_wp2_with fail
            with_reducible refine (zero_yes (by omega) hx t2).mono ?_
            rintro e v3 ⟨rfl, hu3⟩
            replace hx := hx.keep hu3
            replace hy := hy.keep hu3
            replace u := u.trans hu3
            clear hu3
            go_wp2_with fail
            go_ret
            exact ⟨rfl, u⟩
          · skip
            by_cases t3 : Xy = 0
            · go_enter Try.func5, Try.ntmps5
              have u := Upd.refl (fun _ => False) w
              go_wp2_with fail
              with_reducible refine (long_no t0 hx).mono ?_
              rintro e v1 ⟨rfl, hu1⟩
              replace hx := hx.keep hu1
              replace hy := hy.keep hu1
              replace u := u.trans hu1
              clear hu1
              go_wp2_with fail
              with_reducible refine (long_no t1 hy).mono ?_
              rintro e v2 ⟨rfl, hu2⟩
              replace hx := hx.keep hu2
              replace hy := hy.keep hu2
              replace u := u.trans hu2
              clear hu2
              go_wp2_with fail
              with_reducible refine (zero_no (by omega) hx t2).mono ?_
              rintro e v3 ⟨rfl, hu3⟩
              replace hx := hx.keep hu3
              replace hy := hy.keep hu3
              replace u := u.trans hu3
              clear hu3
              go_wp2_with fail
              with_reducible refine (zero_yes (by omega) hy t3).mono ?_
              rintro e v4 ⟨rfl, hu4⟩
              replace hx := hx.keep hu4
              replace hy := hy.keep hu4
              replace u := u.trans hu4
              clear hu4
              go_wp2_with fail
              go_ret
              exact ⟨rfl, u⟩
            · skip
              by_cases t4 : ¬ Xx % 2 = 1
              · go_enter Try.func5, Try.ntmps5
                have u := Upd.refl (fun _ => False) w
                go_wp2_with fail
                with_reducible refine (long_no t0 hx).mono ?_
                rintro e v1 ⟨rfl, hu1⟩
                replace hx := hx.keep hu1
                replace hy := hy.keep hu1
                replace u := u.trans hu1
                clear hu1
                go_wp2_with fail
                with_reducible refine (long_no t1 hy).mono ?_
                rintro e v2 ⟨rfl, hu2⟩
                replace hx := hx.keep hu2
                replace hy := hy.keep hu2
                replace u := u.trans hu2
                clear hu2
                go_wp2_with fail
                with_reducible refine (zero_no (by omega) hx t2).mono ?_
                rintro e v3 ⟨rfl, hu3⟩
                replace hx := hx.keep hu3
                replace hy := hy.keep hu3
                replace u := u.trans hu3
                clear hu3
                go_wp2_with fail
                with_reducible refine (zero_no (by omega) hy t3).mono ?_
                rintro e v4 ⟨rfl, hu4⟩
                replace hx := hx.keep hu4
                replace hy := hy.keep hu4
                replace u := u.trans hu4
                clear hu4
                go_wp2_with fail
                with_reducible refine (odd_no (by omega) hx t4).mono ?_
                rintro e v5 ⟨rfl, hu5⟩
                replace hx := hx.keep hu5
                replace hy := hy.keep hu5
                replace u := u.trans hu5
                clear hu5
                go_wp2_with fail
                go_ret
                exact ⟨rfl, u⟩
              · skip
                go_enter Try.func5, Try.ntmps5
                have u := Upd.refl (fun _ => False) w
                have g1 : gcdO Xx Xy = some (nb (Nat.gcd Xx Xy), Nat.gcd Xx Xy) := gcdO_some (by omega)
                have g2 : gcdO Xy Xx = some (nb (Nat.gcd Xx Xy), Nat.gcd Xx Xy) := by rw [gcdO_some (by omega), Nat.gcd_comm]
                have g3 : gcdO Xx Xx = some (nb Xx, Xx) := by rw [gcdO_some (by omega), Nat.gcd_self]
                have g4 : gcdO Xy 1 = some (1, 1) := by rw [gcdO_some (by omega), Nat.gcd_one_right]; rfl
                have hb1 : nb (Nat.gcd Xx Xy) ≤ 300 := Nat.le_trans (nb_mono (Nat.gcd_le_left Xy (Nat.pos_of_ne_zero t2))) (Nat.le_trans hx.nb (by omega))
                have hb2 : nb Xx ≤ 300 := Nat.le_trans hx.nb (by omega)
                replace g1 := Lib.hid g1
                replace g2 := Lib.hid g2
                replace g3 := Lib.hid g3
                replace g4 := Lib.hid g4
                obtain ⟨s1, Hs1⟩ : ∃ s, Hid (s = nb (Nat.gcd Xx Xy)) := ⟨_, rfl⟩
                obtain ⟨s2, Hs2⟩ : ∃ s, Hid (s = nb Xx) := ⟨_, rfl⟩
                rw [← Hs1.out] at hb1 g1 g2
                rw [← Hs2.out] at hb2 g3
                go_wp2_with fail
                with_reducible refine (long_no t0 hx).mono ?_
                rintro e v1 ⟨rfl, hu1⟩
                replace hx := hx.keep hu1
                replace hy := hy.keep hu1
                replace u := u.trans hu1
                clear hu1
                go_wp2_with fail
                with_reducible refine (long_no t1 hy).mono ?_
                rintro e v2 ⟨rfl, hu2⟩
                replace hx := hx.keep hu2
                replace hy := hy.keep hu2
                replace u := u.trans hu2
                clear hu2
                go_wp2_with fail
                with_reducible refine (zero_no (by omega) hx t2).mono ?_
                rintro e v3 ⟨rfl, hu3⟩
                replace hx := hx.keep hu3
                replace hy := hy.keep hu3
                replace u := u.trans hu3
                clear hu3
                go_wp2_with fail
                with_reducible refine (zero_no (by omega) hy t3).mono ?_
                rintro e v4 ⟨rfl, hu4⟩
                replace hx := hx.keep hu4
                replace hy := hy.keep hu4
                replace u := u.trans hu4
                clear hu4
                go_wp2_with fail
                with_reducible refine (odd_yes (by omega) hx t4).mono ?_
                rintro e v5 ⟨rfl, hu5⟩
                replace hx := hx.keep hu5
                replace hy := hy.keep hu5
                replace u := u.trans hu5
                clear hu5
                have kp := iGCD_bs (by omega) (by omega) hx hy
                rw [g1.out] at kp
                replace kp := Lib.hid kp
                go_wp2_with fail
                with_reducible refine (kp.out).mono ?_
                rintro e v6 ⟨ap, cp, rfl, hp, hu6⟩
                replace hx := hx.keep hu6
                replace hy := hy.keep hu6
                replace u := u.trans hu6
                clear hu6
                have kq := iGCD_bs (by omega) (by omega) hy hx
                rw [g2.out] at kq
                replace kq := Lib.hid kq
                go_wp2_with fail
                with_reducible refine (kq.out).mono ?_
                rintro e v7 ⟨aq, cq, rfl, hq, hu7⟩
                replace hx := hx.keep hu7
                replace hy := hy.keep hu7
                replace hp := hp.keep hu7
                replace u := u.trans hu7
                clear hu7
                have kr := iGCD_bs (by omega) (by omega) hx hx
                rw [g3.out] at kr
                replace kr := Lib.hid kr
                go_wp2_with fail
                with_reducible refine (kr.out).mono ?_
                rintro e v8 ⟨ar, cr, rfl, hr, hu8⟩
                replace hx := hx.keep hu8
                replace hy := hy.keep hu8
                replace hp := hp.keep hu8
                replace hq := hq.keep hu8
                replace u := u.trans hu8
                clear hu8
                go_wp2_with fail
                have ua : Upd0 v8 (v8.alloc (.cells #[.int .u8 1] 5)) := (Upd.refl _ _).alloc _
                have h1 := Bs.one v8 1 (by omega) 5
                replace hx := hx.keep ua
                replace hy := hy.keep ua
                replace hp := hp.keep ua
                replace hq := hq.keep ua
                replace hr := hr.keep ua
                replace u := u.trans ua
                have kd := iGCD_bs (by omega) (by omega) hy h1
                rw [g4.out] at kd
                replace kd := Lib.hid kd
                go_wp2_with fail
                with_reducible refine (kd.out).mono ?_
                rintro e v9 ⟨ad, cd, rfl, hd, hu9⟩
                replace hx := hx.keep hu9
                replace hy := hy.keep hu9
                replace hp := hp.keep hu9
                replace hq := hq.keep hu9
                replace hr := hr.keep hu9
                replace u := u.trans hu9
                clear hu9
                go_wp2_with fail
                with_reducible refine (same_eq (by omega) hp hq).mono ?_
                rintro e v10 ⟨rfl, hu10⟩
                replace hx := hx.keep hu10
                replace hy := hy.keep hu10
                replace hp := hp.keep hu10
                replace hq := hq.keep hu10
                replace hr := hr.keep hu10
                replace hd := hd.keep hu10
                replace u := u.trans hu10
                clear hu10
                have ks := iShiftRight_zero (by omega) hx
                rw [← Hs2.out] at ks
                replace ks := Lib.hid ks
                go_wp2_with fail
                with_reducible refine (ks.out).mono ?_
                rintro e v11 ⟨az, cz, rfl, hz, hu11⟩
                replace hx := hx.keep hu11
                replace hy := hy.keep hu11
                replace hp := hp.keep hu11
                replace hq := hq.keep hu11
                replace hr := hr.keep hu11
                replace hd := hd.keep hu11
                replace u := u.trans hu11
                clear hu11
                go_wp2_with fail
                with_reducible refine (same_eq (by omega) hr hz).mono ?_
                rintro e v12 ⟨rfl, hu12⟩
                replace hx := hx.keep hu12
                replace hy := hy.keep hu12
                replace hp := hp.keep hu12
                replace hq := hq.keep hu12
                replace hr := hr.keep hu12
                replace hd := hd.keep hu12
                replace hz := hz.keep hu12
                replace u := u.trans hu12
                clear hu12
                obtain ⟨bd, od, rfl, hcd⟩ := hd.first
                go_wp2_with fail
                go_ret
                exact ⟨rfl, u⟩

end Go.Proofs.Ytmbghmjllipbhaa
