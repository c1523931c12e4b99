/-
  Ring laws with multiplication.
-/
import Derived.Test.YtiiihhohfgepfaaLwIn
import Derived.Test.YtiiihhohfgepfaaImpC
import Derived.Test.YtiiihhohfgepfaaSpecL
import Derived.Test.YtiiihhohfgepfaaRing
namespace Go.Proofs.Ytiiihhohfgepfaa
open Go.RowKit

set_option maxRecDepth 100000 in
set_option maxHeartbeats 4000000 in
theorem law_FnMulOrder (ax : Option Addr) (nx cx : Nat) (fx : Nat → Nat) (ay : Option Addr) (ny cy : Nat) (fy : Nat → Nat) (am : Option Addr) (nm cm : Nat) (fm : Nat → Nat) (w : World) (hfx : ∀ i, i < nx → fx i < 256) (hsx : Sl .u8 w ax nx cx fx) (hfy : ∀ i, i < ny → fy i < 256) (hsy : Sl .u8 w ay ny cy fy) (hfm : ∀ i, i < nm → fm i < 256) (hsm : Sl .u8 w am nm cm fm) :
    Calls Try.prog 16 #[.slice ax nx cx, .slice ay ny cy, .slice am nm cm] w (Holds1 w) := by
  obtain ⟨Xx, HXx⟩ : ∃ X, Hid (X = be fx nx) := ⟨_, rfl⟩
  have hx : Bs w ax nx cx Xx := by rw [HXx.out]; exact .mk' hfx hsx
  clear hfx hsx HXx
  obtain ⟨Xy, HXy⟩ : ∃ X, Hid (X = be fy ny) := ⟨_, rfl⟩
  have hy : Bs w ay ny cy Xy := by rw [HXy.out]; exact .mk' hfy hsy
  clear hfy hsy HXy
  obtain ⟨Xm, HXm⟩ : ∃ X, Hid (X = be fm nm) := ⟨_, rfl⟩
  have hm : Bs w am nm cm Xm := by rw [HXm.out]; exact .mk' hfm hsm
  clear hfm hsm HXm
  by_cases s0 : 2147483647 < nx
  · go_enter Try.func16, Try.ntmps16
    go_wp2_with fail
    go_ret
    exact ⟨rfl, .refl _ _⟩
  · skip
    by_cases s1 : 2147483647 < ny
    · go_enter Try.func16, Try.ntmps16
      go_wp2_with fail
      go_ret
      exact ⟨rfl, .refl _ _⟩
    · skip
      by_cases s2 : 2147483647 < nm
      · go_enter Try.func16, Try.ntmps16
        go_wp2_with fail
        go_ret
        exact ⟨rfl, .refl _ _⟩
      · skip
        by_cases t0 : ¬ (nm ≤ 300 ∧ nx ≤ 300 ∧ nx ≤ nb Xm ∧ 1 < Xm ∧ Xx < Xm)
        · go_enter Try.func16, Try.ntmps16
          have u := Upd.refl (fun _ => False) w
          go_wp2_with fail
          with_reducible refine (in_no t0 hx hm).mono ?_
          rintro e v1 ⟨rfl, hu1⟩
          replace hx := hx.keep hu1
          replace hy := hy.keep hu1
          replace hm := hm.keep hu1
          replace u := u.trans hu1
          clear hu1
          go_wp2_with fail
          go_ret
          exact ⟨rfl, u⟩
        · skip
          by_cases t1 : ¬ (nm ≤ 300 ∧ ny ≤ 300 ∧ ny ≤ nb Xm ∧ 1 < Xm ∧ Xy < Xm)
          · go_enter Try.func16, Try.ntmps16
            have u := Upd.refl (fun _ => False) w
            go_wp2_with fail
            with_reducible refine (in_yes t0 hx hm).mono ?_
            rintro e v1 ⟨rfl, hu1⟩
            replace hx := hx.keep hu1
            replace hy := hy.keep hu1
            replace hm := hm.keep hu1
            replace u := u.trans hu1
            clear hu1
            go_wp2_with fail
            with_reducible refine (in_no t1 hy hm).mono ?_
            rintro e v2 ⟨rfl, hu2⟩
            replace hx := hx.keep hu2
            replace hy := hy.keep hu2
            replace hm := hm.keep hu2
            replace u := u.trans hu2
            clear hu2
            go_wp2_with fail
            go_ret
            exact ⟨rfl, u⟩
          · skip
            obtain ⟨S, HS⟩ : ∃ S, Hid (S = nb Xm) := ⟨_, rfl⟩
            have hSb : S ≤ 300 := by rw [HS.out]; exact Nat.le_trans hm.nb (by omega)
            have Rx : RM Xm Xx (Xx : Int) := .base _ _
            have Ry : RM Xm Xy (Xy : Int) := .base _ _
            have Rnil : RM Xm 0 0 := .zero _
            have Rone : RM Xm 1 1 := .one _
            obtain ⟨Vp, HVp⟩ : ∃ V, Hid (V = (Xx * Xy) % Xm) := ⟨_, rfl⟩
            have lp : Vp < Xm := by rw [HVp.out]; exact Nat.mod_lt _ (by omega)
            have Rp := RM.mulm HVp.out Rx Ry
            obtain ⟨Vq, HVq⟩ : ∃ V, Hid (V = (Xy * Xx) % Xm) := ⟨_, rfl⟩
            have lq : Vq < Xm := by rw [HVq.out]; exact Nat.mod_lt _ (by omega)
            have Rq := RM.mulm HVq.out Ry Rx
            have E1 : Hid (Vp = Vq) := by
              show _ = _
              exact RM.done lp lq Rp Rq (by grind)
            clear Rq Rp Rone Rnil Ry Rx
            go_enter Try.func16, Try.ntmps16
            have u := Upd.refl (fun _ => False) w
            go_wp2_with fail
            with_reducible refine (in_yes t0 hx hm).mono ?_
            rintro e v1 ⟨rfl, hu1⟩
            replace hx := hx.keep hu1
            replace hy := hy.keep hu1
            replace hm := hm.keep hu1
            replace u := u.trans hu1
            clear hu1
            go_wp2_with fail
            with_reducible refine (in_yes t1 hy hm).mono ?_
            rintro e v2 ⟨rfl, hu2⟩
            replace hx := hx.keep hu2
            replace hy := hy.keep hu2
            replace hm := hm.keep hu2
            replace u := u.trans hu2
            clear hu2
            have kp := iMul_bs (fun _ => by have := HS.out; omega) (fun _ => by have := HS.out; omega) (by omega) hx hy hm
            rw [optN_yes (show 1 < Xm ∧ Xx < Xm ∧ Xy < Xm from ⟨by omega, by omega, by omega⟩), ← HS.out, ← HVp.out] at kp
            replace kp := Lib.hid kp
            go_wp2_with fail
            with_reducible refine (kp.out).mono ?_
            rintro e v3 ⟨adp, cdp, rfl, hp, hu3⟩
            replace hx := hx.keep hu3
            replace hy := hy.keep hu3
            replace hm := hm.keep hu3
            replace u := u.trans hu3
            clear hu3
            have kq := iMul_bs (fun _ => by have := HS.out; omega) (fun _ => by have := HS.out; omega) (by omega) hy hx hm
            rw [optN_yes (show 1 < Xm ∧ Xy < Xm ∧ Xx < Xm from ⟨by omega, by omega, by omega⟩), ← HS.out, ← HVq.out] at kq
            replace kq := Lib.hid kq
            go_wp2_with fail
            with_reducible refine (kq.out).mono ?_
            rintro e v4 ⟨adq, cdq, rfl, hq, hu4⟩
            replace hx := hx.keep hu4
            replace hy := hy.keep hu4
            replace hm := hm.keep hu4
            replace hp := hp.keep hu4
            replace u := u.trans hu4
            clear hu4
            go_wp2_with fail
            with_reducible refine (same_eq2 (by omega) hp hq E1.out).mono ?_
            rintro e v5 ⟨rfl, hu5⟩
            replace hx := hx.keep hu5
            replace hy := hy.keep hu5
            replace hm := hm.keep hu5
            replace hp := hp.keep hu5
            replace hq := hq.keep hu5
            replace u := u.trans hu5
            clear hu5
            go_wp2_with fail
            go_ret
            exact ⟨rfl, u⟩

set_option maxRecDepth 100000 in
set_option maxHeartbeats 4000000 in
theorem law_FnMulGroups (ax : Option Addr) (nx cx : Nat) (fx : Nat → Nat) (ay : Option Addr) (ny cy : Nat) (fy : Nat → Nat) (az : Option Addr) (nz cz : Nat) (fz : Nat → Nat) (am : Option Addr) (nm cm : Nat) (fm : Nat → Nat) (w : World) (hfx : ∀ i, i < nx → fx i < 256) (hsx : Sl .u8 w ax nx cx fx) (hfy : ∀ i, i < ny → fy i < 256) (hsy : Sl .u8 w ay ny cy fy) (hfz : ∀ i, i < nz → fz i < 256) (hsz : Sl .u8 w az nz cz fz) (hfm : ∀ i, i < nm → fm i < 256) (hsm : Sl .u8 w am nm cm fm) :
    Calls Try.prog 15 #[.slice ax nx cx, .slice ay ny cy, .slice az nz cz, .slice am nm cm] w (Holds1 w) := by
  obtain ⟨Xx, HXx⟩ : ∃ X, Hid (X = be fx nx) := ⟨_, rfl⟩
  have hx : Bs w ax nx cx Xx := by rw [HXx.out]; exact .mk' hfx hsx
  clear hfx hsx HXx
  obtain ⟨Xy, HXy⟩ : ∃ X, Hid (X = be fy ny) := ⟨_, rfl⟩
  have hy : Bs w ay ny cy Xy := by rw [HXy.out]; exact .mk' hfy hsy
  clear hfy hsy HXy
  obtain ⟨Xz, HXz⟩ : ∃ X, Hid (X = be fz nz) := ⟨_, rfl⟩
  have hz : Bs w az nz cz Xz := by rw [HXz.out]; exact .mk' hfz hsz
  clear hfz hsz HXz
  obtain ⟨Xm, HXm⟩ : ∃ X, Hid (X = be fm nm) := ⟨_, rfl⟩
  have hm : Bs w am nm cm Xm := by rw [HXm.out]; exact .mk' hfm hsm
  clear hfm hsm HXm
  by_cases s0 : 2147483647 < nx
  · go_enter Try.func15, Try.ntmps15
    go_wp2_with fail
    go_ret
    exact ⟨rfl, .refl _ _⟩
  · skip
    by_cases s1 : 2147483647 < ny
    · go_enter Try.func15, Try.ntmps15
      go_wp2_with fail
      go_ret
      exact ⟨rfl, .refl _ _⟩
    · skip
      by_cases s2 : 2147483647 < nz
      · go_enter Try.func15, Try.ntmps15
        go_wp2_with fail
        go_ret
        exact ⟨rfl, .refl _ _⟩
      · skip
        by_cases s3 : 2147483647 < nm
        · go_enter Try.func15, Try.ntmps15
          go_wp2_with fail
          go_ret
          exact ⟨rfl, .refl _ _⟩
        · skip
          by_cases t0 : ¬ (nm ≤ 300 ∧ nx ≤ 300 ∧ nx ≤ nb Xm ∧ 1 < Xm ∧ Xx < Xm)
          · go_enter Try.func15, Try.ntmps15
            have u := Upd.refl (fun _ => False) w
            go_wp2_with fail
            with_reducible refine (in_no t0 hx hm).mono ?_
            rintro e v1 ⟨rfl, hu1⟩
            replace hx := hx.keep hu1
            replace hy := hy.keep hu1
            replace hz := hz.keep hu1
            replace hm := hm.keep hu1
            replace u := u.trans hu1
            clear hu1
            go_wp2_with fail
            go_ret
            exact ⟨rfl, u⟩
          · skip
            by_cases t1 : ¬ (nm ≤ 300 ∧ ny ≤ 300 ∧ ny ≤ nb Xm ∧ 1 < Xm ∧ Xy < Xm)
            · go_enter Try.func15, Try.ntmps15
              have u := Upd.refl (fun _ => False) w
              go_wp2_with fail
              with_reducible refine (in_yes t0 hx hm).mono ?_
              rintro e v1 ⟨rfl, hu1⟩
              replace hx := hx.keep hu1
              replace hy := hy.keep hu1
              replace hz := hz.keep hu1
              replace hm := hm.keep hu1
              replace u := u.trans hu1
              clear hu1
              go_wp2_with fail
              with_reducible refine (in_no t1 hy hm).mono ?_
              rintro e v2 ⟨rfl, hu2⟩
              replace hx := hx.keep hu2
              replace hy := hy.keep hu2
              replace hz := hz.keep hu2
              replace hm := hm.keep hu2
              replace u := u.trans hu2
              clear hu2
              go_wp2_with fail
              go_ret
              exact ⟨rfl, u⟩
            · skip
              by_cases t2 : ¬ (nm ≤ 300 ∧ nz ≤ 300 ∧ nz ≤ nb Xm ∧ 1 < Xm ∧ Xz < Xm)
              · go_enter Try.func15, Try.ntmps15
                have u := Upd.refl (fun _ => False) w
                go_wp2_with fail
                with_reducible refine (in_yes t0 hx hm).mono ?_
                rintro e v1 ⟨rfl, hu1⟩
                replace hx := hx.keep hu1
                replace hy := hy.keep hu1
                replace hz := hz.keep hu1
                replace hm := hm.keep hu1
                replace u := u.trans hu1
                clear hu1
                go_wp2_with fail
                with_reducible refine (in_yes t1 hy hm).mono ?_
                rintro e v2 ⟨rfl, hu2⟩
                replace hx := hx.keep hu2
                replace hy := hy.keep hu2
                replace hz := hz.keep hu2
                replace hm := hm.keep hu2
                replace u := u.trans hu2
                clear hu2
                go_wp2_with fail
                with_reducible refine (in_no t2 hz hm).mono ?_
                rintro e v3 ⟨rfl, hu3⟩
                replace hx := hx.keep hu3
                replace hy := hy.keep hu3
                replace hz := hz.keep hu3
                replace hm := hm.keep hu3
                replace u := u.trans hu3
                clear hu3
                go_wp2_with fail
                go_ret
                exact ⟨rfl, u⟩
              · skip
                obtain ⟨S, HS⟩ : ∃ S, Hid (S = nb Xm) := ⟨_, rfl⟩
                have hSb : S ≤ 300 := by rw [HS.out]; exact Nat.le_trans hm.nb (by omega)
                have Rx : RM Xm Xx (Xx : Int) := .base _ _
                have Ry : RM Xm Xy (Xy : Int) := .base _ _
                have Rz : RM Xm Xz (Xz : Int) := .base _ _
                have Rnil : RM Xm 0 0 := .zero _
                have Rone : RM Xm 1 1 := .one _
                obtain ⟨Vp, HVp⟩ : ∃ V, Hid (V = (Xx * Xy) % Xm) := ⟨_, rfl⟩
                have lp : Vp < Xm := by rw [HVp.out]; exact Nat.mod_lt _ (by omega)
                have Rp := RM.mulm HVp.out Rx Ry
                obtain ⟨Vq, HVq⟩ : ∃ V, Hid (V = (Vp * Xz) % Xm) := ⟨_, rfl⟩
                have lq : Vq < Xm := by rw [HVq.out]; exact Nat.mod_lt _ (by omega)
                have Rq := RM.mulm HVq.out Rp Rz
                obtain ⟨Vr, HVr⟩ : ∃ V, Hid (V = (Xy * Xz) % Xm) := ⟨_, rfl⟩
                have lr : Vr < Xm := by rw [HVr.out]; exact Nat.mod_lt _ (by omega)
                have Rr := RM.mulm HVr.out Ry Rz
                obtain ⟨Vs, HVs⟩ : ∃ V, Hid (V = (Xx * Vr) % Xm) := ⟨_, rfl⟩
                have ls : Vs < Xm := by rw [HVs.out]; exact Nat.mod_lt _ (by omega)
                have Rs := RM.mulm HVs.out Rx Rr
                have E1 : Hid (Vq = Vs) := by
                  show _ = _
                  exact RM.done lq ls Rq Rs (by grind)
                clear Rs Rr Rq Rp Rone Rnil Rz Ry Rx
                go_enter Try.func15, Try.ntmps15
                have u := Upd.refl (fun _ => False) w
                go_wp2_with fail
                with_reducible refine (in_yes t0 hx hm).mono ?_
                rintro e v1 ⟨rfl, hu1⟩
                replace hx := hx.keep hu1
                replace hy := hy.keep hu1
                replace hz := hz.keep hu1
                replace hm := hm.keep hu1
                replace u := u.trans hu1
                clear hu1
                go_wp2_with fail
                with_reducible refine (in_yes t1 hy hm).mono ?_
                rintro e v2 ⟨rfl, hu2⟩
                replace hx := hx.keep hu2
                replace hy := hy.keep hu2
                replace hz := hz.keep hu2
                replace hm := hm.keep hu2
                replace u := u.trans hu2
                clear hu2
                go_wp2_with fail
                with_reducible refine (in_yes t2 hz hm).mono ?_
                rintro e v3 ⟨rfl, hu3⟩
                replace hx := hx.keep hu3
                replace hy := hy.keep hu3
                replace hz := hz.keep hu3
                replace hm := hm.keep hu3
                replace u := u.trans hu3
                clear hu3
                have kp := iMul_bs (fun _ => by have := HS.out; omega) (fun _ => by have := HS.out; omega) (by omega) hx hy hm
                rw [optN_yes (show 1 < Xm ∧ Xx < Xm ∧ Xy < Xm from ⟨by omega, by omega, by omega⟩), ← HS.out, ← HVp.out] at kp
                replace kp := Lib.hid kp
                go_wp2_with fail
                with_reducible refine (kp.out).mono ?_
                rintro e v4 ⟨adp, cdp, rfl, hp, hu4⟩
                replace hx := hx.keep hu4
                replace hy := hy.keep hu4
                replace hz := hz.keep hu4
                replace hm := hm.keep hu4
                replace u := u.trans hu4
                clear hu4
                have kq := iMul_bs (fun _ => by have := HS.out; omega) (fun _ => by have := HS.out; omega) (by omega) hp hz hm
                rw [optN_yes (show 1 < Xm ∧ Vp < Xm ∧ Xz < Xm from ⟨by omega, by omega, by omega⟩), ← HS.out, ← HVq.out] at kq
                replace kq := Lib.hid kq
                go_wp2_with fail
                with_reducible refine (kq.out).mono ?_
                rintro e v5 ⟨adq, cdq, rfl, hq, hu5⟩
                replace hx := hx.keep hu5
                replace hy := hy.keep hu5
                replace hz := hz.keep hu5
                replace hm := hm.keep hu5
                replace hp := hp.keep hu5
                replace u := u.trans hu5
                clear hu5
                have kr := iMul_bs (fun _ => by have := HS.out; omega) (fun _ => by have := HS.out; omega) (by omega) hy hz hm
                rw [optN_yes (show 1 < Xm ∧ Xy < Xm ∧ Xz < Xm from ⟨by omega, by omega, by omega⟩), ← HS.out, ← HVr.out] at kr
                replace kr := Lib.hid kr
                go_wp2_with fail
                with_reducible refine (kr.out).mono ?_
                rintro e v6 ⟨adr, cdr, rfl, hr, hu6⟩
                replace hx := hx.keep hu6
                replace hy := hy.keep hu6
                replace hz := hz.keep hu6
                replace hm := hm.keep hu6
                replace hp := hp.keep hu6
                replace hq := hq.keep hu6
                replace u := u.trans hu6
                clear hu6
                have ks := iMul_bs (fun _ => by have := HS.out; omega) (fun _ => by have := HS.out; omega) (by omega) hx hr hm
                rw [optN_yes (show 1 < Xm ∧ Xx < Xm ∧ Vr < Xm from ⟨by omega, by omega, by omega⟩), ← HS.out, ← HVs.out] at ks
                replace ks := Lib.hid ks
                go_wp2_with fail
                with_reducible refine (ks.out).mono ?_
                rintro e v7 ⟨ads, cds, rfl, hs, hu7⟩
                replace hx := hx.keep hu7
                replace hy := hy.keep hu7
                replace hz := hz.keep hu7
                replace hm := hm.keep hu7
                replace hp := hp.keep hu7
                replace hq := hq.keep hu7
                replace hr := hr.keep hu7
                replace u := u.trans hu7
                clear hu7
                go_wp2_with fail
                with_reducible refine (same_eq2 (by omega) hq hs E1.out).mono ?_
                rintro e v8 ⟨rfl, hu8⟩
                replace hx := hx.keep hu8
                replace hy := hy.keep hu8
                replace hz := hz.keep hu8
                replace hm := hm.keep hu8
                replace hp := hp.keep hu8
                replace hq := hq.keep hu8
                replace hr := hr.keep hu8
                replace hs := hs.keep hu8
                replace u := u.trans hu8
                clear hu8
                go_wp2_with fail
                go_ret
                exact ⟨rfl, u⟩

set_option maxRecDepth 100000 in
set_option maxHeartbeats 4000000 in
theorem law_FnMulSpread (ax : Option Addr) (nx cx : Nat) (fx : Nat → Nat) (ay : Option Addr) (ny cy : Nat) (fy : Nat → Nat) (az : Option Addr) (nz cz : Nat) (fz : Nat → Nat) (am : Option Addr) (nm cm : Nat) (fm : Nat → Nat) (w : World) (hfx : ∀ i, i < nx → fx i < 256) (hsx : Sl .u8 w ax nx cx fx) (hfy : ∀ i, i < ny → fy i < 256) (hsy : Sl .u8 w ay ny cy fy) (hfz : ∀ i, i < nz → fz i < 256) (hsz : Sl .u8 w az nz cz fz) (hfm : ∀ i, i < nm → fm i < 256) (hsm : Sl .u8 w am nm cm fm) :
    Calls Try.prog 17 #[.slice ax nx cx, .slice ay ny cy, .slice az nz cz, .slice am nm cm] w (Holds1 w) := by
  obtain ⟨Xx, HXx⟩ : ∃ X, Hid (X = be fx nx) := ⟨_, rfl⟩
  have hx : Bs w ax nx cx Xx := by rw [HXx.out]; exact .mk' hfx hsx
  clear hfx hsx HXx
  obtain ⟨Xy, HXy⟩ : ∃ X, Hid (X = be fy ny) := ⟨_, rfl⟩
  have hy : Bs w ay ny cy Xy := by rw [HXy.out]; exact .mk' hfy hsy
  clear hfy hsy HXy
  obtain ⟨Xz, HXz⟩ : ∃ X, Hid (X = be fz nz) := ⟨_, rfl⟩
  have hz : Bs w az nz cz Xz := by rw [HXz.out]; exact .mk' hfz hsz
  clear hfz hsz HXz
  obtain ⟨Xm, HXm⟩ : ∃ X, Hid (X = be fm nm) := ⟨_, rfl⟩
  have hm : Bs w am nm cm Xm := by rw [HXm.out]; exact .mk' hfm hsm
  clear hfm hsm HXm
  by_cases s0 : 2147483647 < nx
  · go_enter Try.func17, Try.ntmps17
    go_wp2_with fail
    go_ret
    exact ⟨rfl, .refl _ _⟩
  · skip
    by_cases s1 : 2147483647 < ny
    · go_enter Try.func17, Try.ntmps17
      go_wp2_with fail
      go_ret
      exact ⟨rfl, .refl _ _⟩
    · skip
      by_cases s2 : 2147483647 < nz
      · go_enter Try.func17, Try.ntmps17
        go_wp2_with fail
        go_ret
        exact ⟨rfl, .refl _ _⟩
      · skip
        by_cases s3 : 2147483647 < nm
        · go_enter Try.func17, Try.ntmps17
          go_wp2_with fail
          go_ret
          exact ⟨rfl, .refl _ _⟩
        · skip
          by_cases t0 : ¬ (nm ≤ 300 ∧ nx ≤ 300 ∧ nx ≤ nb Xm ∧ 1 < Xm ∧ Xx < Xm)
          · go_enter Try.func17, Try.ntmps17
            have u := Upd.refl (fun _ => False) w
            go_wp2_with fail
            with_reducible refine (in_no t0 hx hm).mono ?_
            rintro e v1 ⟨rfl, hu1⟩
            replace hx := hx.keep hu1
            replace hy := hy.keep hu1
            replace hz := hz.keep hu1
            replace hm := hm.keep hu1
            replace u := u.trans hu1
            clear hu1
            go_wp2_with fail
            go_ret
            exact ⟨rfl, u⟩
          · skip
            by_cases t1 : ¬ (nm ≤ 300 ∧ ny ≤ 300 ∧ ny ≤ nb Xm ∧ 1 < Xm ∧ Xy < Xm)
            · go_enter Try.func17, Try.ntmps17
              have u := Upd.refl (fun _ => False) w
              go_wp2_with fail
              with_reducible refine (in_yes t0 hx hm).mono ?_
              rintro e v1 ⟨rfl, hu1⟩
              replace hx := hx.keep hu1
              replace hy := hy.keep hu1
              replace hz := hz.keep hu1
              replace hm := hm.keep hu1
              replace u := u.trans hu1
              clear hu1
              go_wp2_with fail
              with_reducible refine (in_no t1 hy hm).mono ?_
              rintro e v2 ⟨rfl, hu2⟩
              replace hx := hx.keep hu2
              replace hy := hy.keep hu2
              replace hz := hz.keep hu2
              replace hm := hm.keep hu2
              replace u := u.trans hu2
              clear hu2
              go_wp2_with fail
              go_ret
              exact ⟨rfl, u⟩
            · skip
              by_cases t2 : ¬ (nm ≤ 300 ∧ nz ≤ 300 ∧ nz ≤ nb Xm ∧ 1 < Xm ∧ Xz < Xm)
              · go_enter Try.func17, Try.ntmps17
                have u := Upd.refl (fun _ => False) w
                go_wp2_with fail
                with_reducible refine (in_yes t0 hx hm).mono ?_
                rintro e v1 ⟨rfl, hu1⟩
                replace hx := hx.keep hu1
                replace hy := hy.keep hu1
                replace hz := hz.keep hu1
                replace hm := hm.keep hu1
                replace u := u.trans hu1
                clear hu1
                go_wp2_with fail
                with_reducible refine (in_yes t1 hy hm).mono ?_
                rintro e v2 ⟨rfl, hu2⟩
                replace hx := hx.keep hu2
                replace hy := hy.keep hu2
                replace hz := hz.keep hu2
                replace hm := hm.keep hu2
                replace u := u.trans hu2
                clear hu2
                go_wp2_with fail
                with_reducible refine (in_no t2 hz hm).mono ?_
                rintro e v3 ⟨rfl, hu3⟩
                replace hx := hx.keep hu3
                replace hy := hy.keep hu3
                replace hz := hz.keep hu3
                replace hm := hm.keep hu3
                replace u := u.trans hu3
                clear hu3
                go_wp2_with fail
                go_ret
                exact ⟨rfl, u⟩
              · skip
                obtain ⟨S, HS⟩ : ∃ S, Hid (S = nb Xm) := ⟨_, rfl⟩
                have hSb : S ≤ 300 := by rw [HS.out]; exact Nat.le_trans hm.nb (by omega)
                have Rx : RM Xm Xx (Xx : Int) := .base _ _
                have Ry : RM Xm Xy (Xy : Int) := .base _ _
                have Rz : RM Xm Xz (Xz : Int) := .base _ _
                have Rnil : RM Xm 0 0 := .zero _
                have Rone : RM Xm 1 1 := .one _
                obtain ⟨Vp, HVp⟩ : ∃ V, Hid (V = (Xy + Xz) % Xm) := ⟨_, rfl⟩
                have lp : Vp < Xm := by rw [HVp.out]; exact Nat.mod_lt _ (by omega)
                have Rp := RM.addm HVp.out Ry Rz
                obtain ⟨Vq, HVq⟩ : ∃ V, Hid (V = (Xx * Vp) % Xm) := ⟨_, rfl⟩
                have lq : Vq < Xm := by rw [HVq.out]; exact Nat.mod_lt _ (by omega)
                have Rq := RM.mulm HVq.out Rx Rp
                obtain ⟨Vr, HVr⟩ : ∃ V, Hid (V = (Xx * Xy) % Xm) := ⟨_, rfl⟩
                have lr : Vr < Xm := by rw [HVr.out]; exact Nat.mod_lt _ (by omega)
                have Rr := RM.mulm HVr.out Rx Ry
                obtain ⟨Vs, HVs⟩ : ∃ V, Hid (V = (Xx * Xz) % Xm) := ⟨_, rfl⟩
                have ls : Vs < Xm := by rw [HVs.out]; exact Nat.mod_lt _ (by omega)
                have Rs := RM.mulm HVs.out Rx Rz
                obtain ⟨Vt, HVt⟩ : ∃ V, Hid (V = (Vr + Vs) % Xm) := ⟨_, rfl⟩
                have lt : Vt < Xm := by rw [HVt.out]; exact Nat.mod_lt _ (by omega)
                have Rt := RM.addm HVt.out Rr Rs
                have E1 : Hid (Vq = Vt) := by
                  show _ = _
                  exact RM.done lq lt Rq Rt (by grind)
                clear Rt Rs Rr Rq Rp Rone Rnil Rz Ry Rx
                go_enter Try.func17, Try.ntmps17
                have u := Upd.refl (fun _ => False) w
                go_wp2_with fail
                with_reducible refine (in_yes t0 hx hm).mono ?_
                rintro e v1 ⟨rfl, hu1⟩
                replace hx := hx.keep hu1
                replace hy := hy.keep hu1
                replace hz := hz.keep hu1
                replace hm := hm.keep hu1
                replace u := u.trans hu1
                clear hu1
                go_wp2_with fail
                with_reducible refine (in_yes t1 hy hm).mono ?_
                rintro e v2 ⟨rfl, hu2⟩
                replace hx := hx.keep hu2
                replace hy := hy.keep hu2
                replace hz := hz.keep hu2
                replace hm := hm.keep hu2
                replace u := u.trans hu2
                clear hu2
                go_wp2_with fail
                with_reducible refine (in_yes t2 hz hm).mono ?_
                rintro e v3 ⟨rfl, hu3⟩
                replace hx := hx.keep hu3
                replace hy := hy.keep hu3
                replace hz := hz.keep hu3
                replace hm := hm.keep hu3
                replace u := u.trans hu3
                clear hu3
                have kp := iAdd_bs (fun _ => by have := HS.out; omega) (fun _ => by have := HS.out; omega) (by omega) hy hz hm
                rw [optN_yes (show 1 < Xm ∧ Xy < Xm ∧ Xz < Xm from ⟨by omega, by omega, by omega⟩), ← HS.out, ← HVp.out] at kp
                replace kp := Lib.hid kp
                go_wp2_with fail
                with_reducible refine (kp.out).mono ?_
                rintro e v4 ⟨adp, cdp, rfl, hp, hu4⟩
                replace hx := hx.keep hu4
                replace hy := hy.keep hu4
                replace hz := hz.keep hu4
                replace hm := hm.keep hu4
                replace u := u.trans hu4
                clear hu4
                have kq := iMul_bs (fun _ => by have := HS.out; omega) (fun _ => by have := HS.out; omega) (by omega) hx hp hm
                rw [optN_yes (show 1 < Xm ∧ Xx < Xm ∧ Vp < Xm from ⟨by omega, by omega, by omega⟩), ← HS.out, ← HVq.out] at kq
                replace kq := Lib.hid kq
                go_wp2_with fail
                with_reducible refine (kq.out).mono ?_
                rintro e v5 ⟨adq, cdq, rfl, hq, hu5⟩
                replace hx := hx.keep hu5
                replace hy := hy.keep hu5
                replace hz := hz.keep hu5
                replace hm := hm.keep hu5
                replace hp := hp.keep hu5
                replace u := u.trans hu5
                clear hu5
                have kr := iMul_bs (fun _ => by have := HS.out; omega) (fun _ => by have := HS.out; omega) (by omega) hx hy hm
                rw [optN_yes (show 1 < Xm ∧ Xx < Xm ∧ Xy < Xm from ⟨by omega, by omega, by omega⟩), ← HS.out, ← HVr.out] at kr
                replace kr := Lib.hid kr
                go_wp2_with fail
                with_reducible refine (kr.out).mono ?_
                rintro e v6 ⟨adr, cdr, rfl, hr, hu6⟩
                replace hx := hx.keep hu6
                replace hy := hy.keep hu6
                replace hz := hz.keep hu6
                replace hm := hm.keep hu6
                replace hp := hp.keep hu6
                replace hq := hq.keep hu6
                replace u := u.trans hu6
                clear hu6
                have ks := iMul_bs (fun _ => by have := HS.out; omega) (fun _ => by have := HS.out; omega) (by omega) hx hz hm
                rw [optN_yes (show 1 < Xm ∧ Xx < Xm ∧ Xz < Xm from ⟨by omega, by omega, by omega⟩), ← HS.out, ← HVs.out] at ks
                replace ks := Lib.hid ks
                go_wp2_with fail
                with_reducible refine (ks.out).mono ?_
                rintro e v7 ⟨ads, cds, rfl, hs, hu7⟩
                replace hx := hx.keep hu7
                replace hy := hy.keep hu7
                replace hz := hz.keep hu7
                replace hm := hm.keep hu7
                replace hp := hp.keep hu7
                replace hq := hq.keep hu7
                replace hr := hr.keep hu7
                replace u := u.trans hu7
                clear hu7
                have kt := iAdd_bs (fun _ => by have := HS.out; omega) (fun _ => by have := HS.out; omega) (by omega) hr hs hm
                rw [optN_yes (show 1 < Xm ∧ Vr < Xm ∧ Vs < Xm from ⟨by omega, by omega, by omega⟩), ← HS.out, ← HVt.out] at kt
                replace kt := Lib.hid kt
                go_wp2_with fail
                with_reducible refine (kt.out).mono ?_
                rintro e v8 ⟨adt, cdt, rfl, ht, hu8⟩
                replace hx := hx.keep hu8
                replace hy := hy.keep hu8
                replace hz := hz.keep hu8
                replace hm := hm.keep hu8
                replace hp := hp.keep hu8
                replace hq := hq.keep hu8
                replace hr := hr.keep hu8
                replace hs := hs.keep hu8
                replace u := u.trans hu8
                clear hu8
                go_wp2_with fail
                with_reducible refine (same_eq2 (by omega) hq ht E1.out).mono ?_
                rintro e v9 ⟨rfl, hu9⟩
                replace hx := hx.keep hu9
                replace hy := hy.keep hu9
                replace hz := hz.keep hu9
                replace hm := hm.keep hu9
                replace hp := hp.keep hu9
                replace hq := hq.keep hu9
                replace hr := hr.keep hu9
                replace hs := hs.keep hu9
                replace ht := ht.keep hu9
                replace u := u.trans hu9
                clear hu9
                go_wp2_with fail
                go_ret
                exact ⟨rfl, u⟩

set_option maxRecDepth 100000 in
set_option maxHeartbeats 4000000 in
theorem law_FnMinusOneTimes (ax : Option Addr) (nx cx : Nat) (fx : Nat → Nat) (am : Option Addr) (nm cm : Nat) (fm : Nat → Nat) (w : World) (hfx : ∀ i, i < nx → fx i < 256) (hsx : Sl .u8 w ax nx cx fx) (hfm : ∀ i, i < nm → fm i < 256) (hsm : Sl .u8 w am nm cm fm) :
    Calls Try.prog 20 #[.slice ax nx cx, .slice am nm cm] w (Holds1 w) := by
  obtain ⟨Xx, HXx⟩ : ∃ X, Hid (X = be fx nx) := ⟨_, rfl⟩
  have hx : Bs w ax nx cx Xx := by rw [HXx.out]; exact .mk' hfx hsx
  clear hfx hsx HXx
  obtain ⟨Xm, HXm⟩ : ∃ X, Hid (X = be fm nm) := ⟨_, rfl⟩
  have hm : Bs w am nm cm Xm := by rw [HXm.out]; exact .mk' hfm hsm
  clear hfm hsm HXm
  by_cases s0 : 2147483647 < nx
  · go_enter Try.func20, Try.ntmps20
    go_wp2_with fail
    go_ret
    exact ⟨rfl, .refl _ _⟩
  · skip
    by_cases s1 : 2147483647 < nm
    · go_enter Try.func20, Try.ntmps20
      go_wp2_with fail
      go_ret
      exact ⟨rfl, .refl _ _⟩
    · skip
      by_cases t0 : ¬ (nm ≤ 300 ∧ nx ≤ 300 ∧ nx ≤ nb Xm ∧ 1 < Xm ∧ Xx < Xm)
      · go_enter Try.func20, Try.ntmps20
        have u := Upd.refl (fun _ => False) w
        go_wp2_with fail
        with_reducible refine (in_no t0 hx hm).mono ?_
        rintro e v1 ⟨rfl, hu1⟩
        replace hx := hx.keep hu1
        replace hm := hm.keep hu1
        replace u := u.trans hu1
        clear hu1
        go_wp2_with fail
        go_ret
        exact ⟨rfl, u⟩
      · skip
        obtain ⟨S, HS⟩ : ∃ S, Hid (S = nb Xm) := ⟨_, rfl⟩
        have hSb : S ≤ 300 := by rw [HS.out]; exact Nat.le_trans hm.nb (by omega)
        have Rx : RM Xm Xx (Xx : Int) := .base _ _
        have Rnil : RM Xm 0 0 := .zero _
        have Rone : RM Xm 1 1 := .one _
        obtain ⟨Vp, HVp⟩ : ∃ V, Hid (V = (0 + Xm - 1) % Xm) := ⟨_, rfl⟩
        have lp : Vp < Xm := by rw [HVp.out]; exact Nat.mod_lt _ (by omega)
        have Rp := RM.subm HVp.out (by omega) Rnil Rone
        obtain ⟨Vq, HVq⟩ : ∃ V, Hid (V = (Xx * Vp) % Xm) := ⟨_, rfl⟩
        have lq : Vq < Xm := by rw [HVq.out]; exact Nat.mod_lt _ (by omega)
        have Rq := RM.mulm HVq.out Rx Rp
        obtain ⟨Vr, HVr⟩ : ∃ V, Hid (V = (0 + Xm - Xx) % Xm) := ⟨_, rfl⟩
        have lr : Vr < Xm := by rw [HVr.out]; exact Nat.mod_lt _ (by omega)
        have Rr := RM.subm HVr.out (by omega) Rnil Rx
        obtain ⟨Vs, HVs⟩ : ∃ V, Hid (V = (Vr * Vr) % Xm) := ⟨_, rfl⟩
        have ls : Vs < Xm := by rw [HVs.out]; exact Nat.mod_lt _ (by omega)
        have Rs := RM.mulm HVs.out Rr Rr
        obtain ⟨Vt, HVt⟩ : ∃ V, Hid (V = (Xx * Xx) % Xm) := ⟨_, rfl⟩
        have lt : Vt < Xm := by rw [HVt.out]; exact Nat.mod_lt _ (by omega)
        have Rt := RM.mulm HVt.out Rx Rx
        have E1 : Hid (Vq = Vr) := by
          show _ = _
          exact RM.done lq lr Rq Rr (by grind)
        have E2 : Hid (Vs = Vt) := by
          show _ = _
          exact RM.done ls lt Rs Rt (by grind)
        clear Rt Rs Rr Rq Rp Rone Rnil Rx
        go_enter Try.func20, Try.ntmps20
        have u := Upd.refl (fun _ => False) w
        go_wp2_with fail
        with_reducible refine (in_yes t0 hx hm).mono ?_
        rintro e v1 ⟨rfl, hu1⟩
        replace hx := hx.keep hu1
        replace hm := hm.keep hu1
        replace u := u.trans hu1
        clear hu1
        have kp := iSubOne_bs (fun _ => by have := HS.out; omega) (by omega) (Bs.emp _) hm
        rw [optN_yes (show 1 < Xm ∧ 0 < Xm from ⟨by omega, by omega⟩), ← HS.out, ← HVp.out] at kp
        replace kp := Lib.hid kp
        go_wp2_with fail
        with_reducible refine (kp.out).mono ?_
        rintro e v2 ⟨adp, cdp, rfl, hp, hu2⟩
        replace hx := hx.keep hu2
        replace hm := hm.keep hu2
        replace u := u.trans hu2
        clear hu2
        have kq := iMul_bs (fun _ => by have := HS.out; omega) (fun _ => by have := HS.out; omega) (by omega) hx hp hm
        rw [optN_yes (show 1 < Xm ∧ Xx < Xm ∧ Vp < Xm from ⟨by omega, by omega, by omega⟩), ← HS.out, ← HVq.out] at kq
        replace kq := Lib.hid kq
        go_wp2_with fail
        with_reducible refine (kq.out).mono ?_
        rintro e v3 ⟨adq, cdq, rfl, hq, hu3⟩
        replace hx := hx.keep hu3
        replace hm := hm.keep hu3
        replace hp := hp.keep hu3
        replace u := u.trans hu3
        clear hu3
        have kr := iSub_bs (fun _ => by have := HS.out; omega) (fun _ => by have := HS.out; omega) (by omega) (Bs.emp _) hx hm
        rw [optN_yes (show 1 < Xm ∧ 0 < Xm ∧ Xx < Xm from ⟨by omega, by omega, by omega⟩), ← HS.out, ← HVr.out] at kr
        replace kr := Lib.hid kr
        go_wp2_with fail
        with_reducible refine (kr.out).mono ?_
        rintro e v4 ⟨adr, cdr, rfl, hr, hu4⟩
        replace hx := hx.keep hu4
        replace hm := hm.keep hu4
        replace hp := hp.keep hu4
        replace hq := hq.keep hu4
        replace u := u.trans hu4
        clear hu4
        have ks := iSquare_bs (fun _ => by have := HS.out; omega) (by omega) hr hm
        rw [optN_yes (show 1 < Xm ∧ Vr < Xm from ⟨by omega, by omega⟩), ← HS.out, ← HVs.out] at ks
        replace ks := Lib.hid ks
        go_wp2_with fail
        with_reducible refine (ks.out).mono ?_
        rintro e v5 ⟨ads, cds, rfl, hs, hu5⟩
        replace hx := hx.keep hu5
        replace hm := hm.keep hu5
        replace hp := hp.keep hu5
        replace hq := hq.keep hu5
        replace hr := hr.keep hu5
        replace u := u.trans hu5
        clear hu5
        have kt := iSquare_bs (fun _ => by have := HS.out; omega) (by omega) hx hm
        rw [optN_yes (show 1 < Xm ∧ Xx < Xm from ⟨by omega, by omega⟩), ← HS.out, ← HVt.out] at kt
        replace kt := Lib.hid kt
        go_wp2_with fail
        with_reducible refine (kt.out).mono ?_
        rintro e v6 ⟨adt, cdt, rfl, ht, hu6⟩
        replace hx := hx.keep hu6
        replace hm := hm.keep hu6
        replace hp := hp.keep hu6
        replace hq := hq.keep hu6
        replace hr := hr.keep hu6
        replace hs := hs.keep hu6
        replace u := u.trans hu6
        clear hu6
        go_wp2_with fail
        with_reducible refine (same_eq2 (by omega) hq hr E1.out).mono ?_
        rintro e v7 ⟨rfl, hu7⟩
        replace hx := hx.keep hu7
        replace hm := hm.keep hu7
        replace hp := hp.keep hu7
        replace hq := hq.keep hu7
        replace hr := hr.keep hu7
        replace hs := hs.keep hu7
        replace ht := ht.keep hu7
        replace u := u.trans hu7
        clear hu7
        go_wp2_with fail
        with_reducible refine (same_eq2 (by omega) hs ht E2.out).mono ?_
        rintro e v8 ⟨rfl, hu8⟩
        replace hx := hx.keep hu8
        replace hm := hm.keep hu8
        replace hp := hp.keep hu8
        replace hq := hq.keep hu8
        replace hr := hr.keep hu8
        replace hs := hs.keep hu8
        replace ht := ht.keep hu8
        replace u := u.trans hu8
        clear hu8
        go_wp2_with fail
        go_ret
        exact ⟨rfl, u⟩

set_option maxRecDepth 100000 in
set_option maxHeartbeats 4000000 in
theorem law_FnSquares (ax : Option Addr) (nx cx : Nat) (fx : Nat → Nat) (ay : Option Addr) (ny cy : Nat) (fy : Nat → Nat) (am : Option Addr) (nm cm : Nat) (fm : Nat → Nat) (w : World) (hfx : ∀ i, i < nx → fx i < 256) (hsx : Sl .u8 w ax nx cx fx) (hfy : ∀ i, i < ny → fy i < 256) (hsy : Sl .u8 w ay ny cy fy) (hfm : ∀ i, i < nm → fm i < 256) (hsm : Sl .u8 w am nm cm fm) :
    Calls Try.prog 18 #[.slice ax nx cx, .slice ay ny cy, .slice am nm cm] w (Holds1 w) := by
  obtain ⟨Xx, HXx⟩ : ∃ X, Hid (X = be fx nx) := ⟨_, rfl⟩
  have hx : Bs w ax nx cx Xx := by rw [HXx.out]; exact .mk' hfx hsx
  clear hfx hsx HXx
  obtain ⟨Xy, HXy⟩ : ∃ X, Hid (X = be fy ny) := ⟨_, rfl⟩
  have hy : Bs w ay ny cy Xy := by rw [HXy.out]; exact .mk' hfy hsy
  clear hfy hsy HXy
  obtain ⟨Xm, HXm⟩ : ∃ X, Hid (X = be fm nm) := ⟨_, rfl⟩
  have hm : Bs w am nm cm Xm := by rw [HXm.out]; exact .mk' hfm hsm
  clear hfm hsm HXm
  by_cases s0 : 2147483647 < nx
  · go_enter Try.func18, Try.ntmps18
    go_wp2_with fail
    go_ret
    exact ⟨rfl, .refl _ _⟩
  · skip
    by_cases s1 : 2147483647 < ny
    · go_enter Try.func18, Try.ntmps18
      go_wp2_with fail
      go_ret
      exact ⟨rfl, .refl _ _⟩
    · skip
      by_cases s2 : 2147483647 < nm
      · go_enter Try.func18, Try.ntmps18
        go_wp2_with fail
        go_ret
        exact ⟨rfl, .refl _ _⟩
      · skip
        by_cases t0 : ¬ (nm ≤ 300 ∧ nx ≤ 300 ∧ nx ≤ nb Xm ∧ 1 < Xm ∧ Xx < Xm)
        · go_enter Try.func18, Try.ntmps18
          have u := Upd.refl (fun _ => False) w
          go_wp2_with fail
          with_reducible refine (in_no t0 hx hm).mono ?_
          rintro e v1 ⟨rfl, hu1⟩
          replace hx := hx.keep hu1
          replace hy := hy.keep hu1
          replace hm := hm.keep hu1
          replace u := u.trans hu1
          clear hu1
          go_wp2_with fail
          go_ret
          exact ⟨rfl, u⟩
        · skip
          by_cases t1 : ¬ (nm ≤ 300 ∧ ny ≤ 300 ∧ ny ≤ nb Xm ∧ 1 < Xm ∧ Xy < Xm)
          · go_enter Try.func18, Try.ntmps18
            have u := Upd.refl (fun _ => False) w
            go_wp2_with fail
            with_reducible refine (in_yes t0 hx hm).mono ?_
            rintro e v1 ⟨rfl, hu1⟩
            replace hx := hx.keep hu1
            replace hy := hy.keep hu1
            replace hm := hm.keep hu1
            replace u := u.trans hu1
            clear hu1
            go_wp2_with fail
            with_reducible refine (in_no t1 hy hm).mono ?_
            rintro e v2 ⟨rfl, hu2⟩
            replace hx := hx.keep hu2
            replace hy := hy.keep hu2
            replace hm := hm.keep hu2
            replace u := u.trans hu2
            clear hu2
            go_wp2_with fail
            go_ret
            exact ⟨rfl, u⟩
          · skip
            obtain ⟨S, HS⟩ : ∃ S, Hid (S = nb Xm) := ⟨_, rfl⟩
            have hSb : S ≤ 300 := by rw [HS.out]; exact Nat.le_trans hm.nb (by omega)
            have Rx : RM Xm Xx (Xx : Int) := .base _ _
            have Ry : RM Xm Xy (Xy : Int) := .base _ _
            have Rnil : RM Xm 0 0 := .zero _
            have Rone : RM Xm 1 1 := .one _
            obtain ⟨Vp, HVp⟩ : ∃ V, Hid (V = (Xx + Xy) % Xm) := ⟨_, rfl⟩
            have lp : Vp < Xm := by rw [HVp.out]; exact Nat.mod_lt _ (by omega)
            have Rp := RM.addm HVp.out Rx Ry
            obtain ⟨Vq, HVq⟩ : ∃ V, Hid (V = (Xx + Xm - Xy) % Xm) := ⟨_, rfl⟩
            have lq : Vq < Xm := by rw [HVq.out]; exact Nat.mod_lt _ (by omega)
            have Rq := RM.subm HVq.out (by omega) Rx Ry
            obtain ⟨Vr, HVr⟩ : ∃ V, Hid (V = (Vp * Vq) % Xm) := ⟨_, rfl⟩
            have lr : Vr < Xm := by rw [HVr.out]; exact Nat.mod_lt _ (by omega)
            have Rr := RM.mulm HVr.out Rp Rq
            obtain ⟨Vs, HVs⟩ : ∃ V, Hid (V = (Xx * Xx) % Xm) := ⟨_, rfl⟩
            have ls : Vs < Xm := by rw [HVs.out]; exact Nat.mod_lt _ (by omega)
            have Rs := RM.mulm HVs.out Rx Rx
            obtain ⟨Vt, HVt⟩ : ∃ V, Hid (V = (Xy * Xy) % Xm) := ⟨_, rfl⟩
            have lt : Vt < Xm := by rw [HVt.out]; exact Nat.mod_lt _ (by omega)
            have Rt := RM.mulm HVt.out Ry Ry
            obtain ⟨Vv, HVv⟩ : ∃ V, Hid (V = (Vs + Xm - Vt) % Xm) := ⟨_, rfl⟩
            have lv : Vv < Xm := by rw [HVv.out]; exact Nat.mod_lt _ (by omega)
            have Rv := RM.subm HVv.out (by omega) Rs Rt
            have E1 : Hid (Vr = Vv) := by
              show _ = _
              exact RM.done lr lv Rr Rv (by grind)
            clear Rv Rt Rs Rr Rq Rp Rone Rnil Ry Rx
            go_enter Try.func18, Try.ntmps18
            have u := Upd.refl (fun _ => False) w
            go_wp2_with fail
            with_reducible refine (in_yes t0 hx hm).mono ?_
            rintro e v1 ⟨rfl, hu1⟩
            replace hx := hx.keep hu1
            replace hy := hy.keep hu1
            replace hm := hm.keep hu1
            replace u := u.trans hu1
            clear hu1
            go_wp2_with fail
            with_reducible refine (in_yes t1 hy hm).mono ?_
            rintro e v2 ⟨rfl, hu2⟩
            replace hx := hx.keep hu2
            replace hy := hy.keep hu2
            replace hm := hm.keep hu2
            replace u := u.trans hu2
            clear hu2
            have kp := iAdd_bs (fun _ => by have := HS.out; omega) (fun _ => by have := HS.out; omega) (by omega) hx hy hm
            rw [optN_yes (show 1 < Xm ∧ Xx < Xm ∧ Xy < Xm from ⟨by omega, by omega, by omega⟩), ← HS.out, ← HVp.out] at kp
            replace kp := Lib.hid kp
            go_wp2_with fail
            with_reducible refine (kp.out).mono ?_
            rintro e v3 ⟨adp, cdp, rfl, hp, hu3⟩
            replace hx := hx.keep hu3
            replace hy := hy.keep hu3
            replace hm := hm.keep hu3
            replace u := u.trans hu3
            clear hu3
            have kq := iSub_bs (fun _ => by have := HS.out; omega) (fun _ => by have := HS.out; omega) (by omega) hx hy hm
            rw [optN_yes (show 1 < Xm ∧ Xx < Xm ∧ Xy < Xm from ⟨by omega, by omega, by omega⟩), ← HS.out, ← HVq.out] at kq
            replace kq := Lib.hid kq
            go_wp2_with fail
            with_reducible refine (kq.out).mono ?_
            rintro e v4 ⟨adq, cdq, rfl, hq, hu4⟩
            replace hx := hx.keep hu4
            replace hy := hy.keep hu4
            replace hm := hm.keep hu4
            replace hp := hp.keep hu4
            replace u := u.trans hu4
            clear hu4
            have kr := iMul_bs (fun _ => by have := HS.out; omega) (fun _ => by have := HS.out; omega) (by omega) hp hq hm
            rw [optN_yes (show 1 < Xm ∧ Vp < Xm ∧ Vq < Xm from ⟨by omega, by omega, by omega⟩), ← HS.out, ← HVr.out] at kr
            replace kr := Lib.hid kr
            go_wp2_with fail
            with_reducible refine (kr.out).mono ?_
            rintro e v5 ⟨adr, cdr, rfl, hr, hu5⟩
            replace hx := hx.keep hu5
            replace hy := hy.keep hu5
            replace hm := hm.keep hu5
            replace hp := hp.keep hu5
            replace hq := hq.keep hu5
            replace u := u.trans hu5
            clear hu5
            have ks := iSquare_bs (fun _ => by have := HS.out; omega) (by omega) hx hm
            rw [optN_yes (show 1 < Xm ∧ Xx < Xm from ⟨by omega, by omega⟩), ← HS.out, ← HVs.out] at ks
            replace ks := Lib.hid ks
            go_wp2_with fail
            with_reducible refine (ks.out).mono ?_
            rintro e v6 ⟨ads, cds, rfl, hs, hu6⟩
            replace hx := hx.keep hu6
            replace hy := hy.keep hu6
            replace hm := hm.keep hu6
            replace hp := hp.keep hu6
            replace hq := hq.keep hu6
            replace hr := hr.keep hu6
            replace u := u.trans hu6
            clear hu6
            have kt := iSquare_bs (fun _ => by have := HS.out; omega) (by omega) hy hm
            rw [optN_yes (show 1 < Xm ∧ Xy < Xm from ⟨by omega, by omega⟩), ← HS.out, ← HVt.out] at kt
            replace kt := Lib.hid kt
            go_wp2_with fail
            with_reducible refine (kt.out).mono ?_
            rintro e v7 ⟨adt, cdt, rfl, ht, hu7⟩
            replace hx := hx.keep hu7
            replace hy := hy.keep hu7
            replace hm := hm.keep hu7
            replace hp := hp.keep hu7
            replace hq := hq.keep hu7
            replace hr := hr.keep hu7
            replace hs := hs.keep hu7
            replace u := u.trans hu7
            clear hu7
            have kv := iSub_bs (fun _ => by have := HS.out; omega) (fun _ => by have := HS.out; omega) (by omega) hs ht hm
            rw [optN_yes (show 1 < Xm ∧ Vs < Xm ∧ Vt < Xm from ⟨by omega, by omega, by omega⟩), ← HS.out, ← HVv.out] at kv
            replace kv := Lib.hid kv
            go_wp2_with fail
            with_reducible refine (kv.out).mono ?_
            rintro e v8 ⟨adv, cdv, rfl, hv, hu8⟩
            replace hx := hx.keep hu8
            replace hy := hy.keep hu8
            replace hm := hm.keep hu8
            replace hp := hp.keep hu8
            replace hq := hq.keep hu8
            replace hr := hr.keep hu8
            replace hs := hs.keep hu8
            replace ht := ht.keep hu8
            replace u := u.trans hu8
            clear hu8
            go_wp2_with fail
            with_reducible refine (same_eq2 (by omega) hr hv E1.out).mono ?_
            rintro e v9 ⟨rfl, hu9⟩
            replace hx := hx.keep hu9
            replace hy := hy.keep hu9
            replace hm := hm.keep hu9
            replace hp := hp.keep hu9
            replace hq := hq.keep hu9
            replace hr := hr.keep hu9
            replace hs := hs.keep hu9
            replace ht := ht.keep hu9
            replace hv := hv.keep hu9
            replace u := u.trans hu9
            clear hu9
            go_wp2_with fail
            go_ret
            exact ⟨rfl, u⟩

set_option maxRecDepth 100000 in
set_option maxHeartbeats 4000000 in
theorem law_FnZero (ax : Option Addr) (nx cx : Nat) (fx : Nat → Nat) (am : Option Addr) (nm cm : Nat) (fm : Nat → Nat) (w : World) (hfx : ∀ i, i < nx → fx i < 256) (hsx : Sl .u8 w ax nx cx fx) (hfm : ∀ i, i < nm → fm i < 256) (hsm : Sl .u8 w am nm cm fm) :
    Calls Try.prog 19 #[.slice ax nx cx, .slice am nm cm] w (Holds1 w) := by
  obtain ⟨Xx, HXx⟩ : ∃ X, Hid (X = be fx nx) := ⟨_, rfl⟩
  have hx : Bs w ax nx cx Xx := by rw [HXx.out]; exact .mk' hfx hsx
  clear hfx hsx HXx
  obtain ⟨Xm, HXm⟩ : ∃ X, Hid (X = be fm nm) := ⟨_, rfl⟩
  have hm : Bs w am nm cm Xm := by rw [HXm.out]; exact .mk' hfm hsm
  clear hfm hsm HXm
  by_cases s0 : 2147483647 < nx
  · go_enter Try.func19, Try.ntmps19
    go_wp2_with fail
    go_ret
    exact ⟨rfl, .refl _ _⟩
  · skip
    by_cases s1 : 2147483647 < nm
    · go_enter Try.func19, Try.ntmps19
      go_wp2_with fail
      go_ret
      exact ⟨rfl, .refl _ _⟩
    · skip
      by_cases t0 : ¬ (nm ≤ 300 ∧ nx ≤ 300 ∧ nx ≤ nb Xm ∧ 1 < Xm ∧ Xx < Xm)
      · go_enter Try.func19, Try.ntmps19
        have u := Upd.refl (fun _ => False) w
        go_wp2_with fail
        with_reducible refine (in_no t0 hx hm).mono ?_
        rintro e v1 ⟨rfl, hu1⟩
        replace hx := hx.keep hu1
        replace hm := hm.keep hu1
        replace u := u.trans hu1
        clear hu1
        go_wp2_with fail
        go_ret
        exact ⟨rfl, u⟩
      · skip
        obtain ⟨S, HS⟩ : ∃ S, Hid (S = nb Xm) := ⟨_, rfl⟩
        have hSb : S ≤ 300 := by rw [HS.out]; exact Nat.le_trans hm.nb (by omega)
        have Rx : RM Xm Xx (Xx : Int) := .base _ _
        have Rnil : RM Xm 0 0 := .zero _
        have Rone : RM Xm 1 1 := .one _
        obtain ⟨Vp, HVp⟩ : ∃ V, Hid (V = (Xx + 0) % Xm) := ⟨_, rfl⟩
        have lp : Vp < Xm := by rw [HVp.out]; exact Nat.mod_lt _ (by omega)
        have Rp := RM.addm HVp.out Rx Rnil
        obtain ⟨Vq, HVq⟩ : ∃ V, Hid (V = (Xx + Xm - 0) % Xm) := ⟨_, rfl⟩
        have lq : Vq < Xm := by rw [HVq.out]; exact Nat.mod_lt _ (by omega)
        have Rq := RM.subm HVq.out (by omega) Rx Rnil
        obtain ⟨Vr, HVr⟩ : ∃ V, Hid (V = (Xx * 0) % Xm) := ⟨_, rfl⟩
        have lr : Vr < Xm := by rw [HVr.out]; exact Nat.mod_lt _ (by omega)
        have Rr := RM.mulm HVr.out Rx Rnil
        obtain ⟨Vs, HVs⟩ : ∃ V, Hid (V = (Xx * 1) % Xm) := ⟨_, rfl⟩
        have ls : Vs < Xm := by rw [HVs.out]; exact Nat.mod_lt _ (by omega)
        have Rs := RM.mulm HVs.out Rx Rone
        have Rt := Rx
        have E1 : Hid (Vp = Xx) := by
          show _ = _
          exact RM.done lp (by omega) Rp Rt (by grind)
        have E2 : Hid (Vq = Vp) := by
          show _ = _
          exact RM.done lq lp Rq Rp (by grind)
        have E3 : Hid (Vr = 0) := by
          show _ = _
          exact RM.done lr (by omega) Rr Rnil (by grind)
        have E4 : Hid (Vs = Vp) := by
          show _ = _
          exact RM.done ls lp Rs Rp (by grind)
        clear Rt Rs Rr Rq Rp Rone Rnil Rx
        go_enter Try.func19, Try.ntmps19
        have u := Upd.refl (fun _ => False) w
        go_wp2_with fail
        with_reducible refine (in_yes t0 hx hm).mono ?_
        rintro e v1 ⟨rfl, hu1⟩
        replace hx := hx.keep hu1
        replace hm := hm.keep hu1
        replace u := u.trans hu1
        clear hu1
        have kp := iAdd_bs (fun _ => by have := HS.out; omega) (fun _ => by have := HS.out; omega) (by omega) hx (Bs.emp _) hm
        rw [optN_yes (show 1 < Xm ∧ Xx < Xm ∧ 0 < Xm from ⟨by omega, by omega, by omega⟩), ← HS.out, ← HVp.out] at kp
        replace kp := Lib.hid kp
        go_wp2_with fail
        with_reducible refine (kp.out).mono ?_
        rintro e v2 ⟨adp, cdp, rfl, hp, hu2⟩
        replace hx := hx.keep hu2
        replace hm := hm.keep hu2
        replace u := u.trans hu2
        clear hu2
        have kq := iSub_bs (fun _ => by have := HS.out; omega) (fun _ => by have := HS.out; omega) (by omega) hx (Bs.emp _) hm
        rw [optN_yes (show 1 < Xm ∧ Xx < Xm ∧ 0 < Xm from ⟨by omega, by omega, by omega⟩), ← HS.out, ← HVq.out] at kq
        replace kq := Lib.hid kq
        go_wp2_with fail
        with_reducible refine (kq.out).mono ?_
        rintro e v3 ⟨adq, cdq, rfl, hq, hu3⟩
        replace hx := hx.keep hu3
        replace hm := hm.keep hu3
        replace hp := hp.keep hu3
        replace u := u.trans hu3
        clear hu3
        have kr := iMul_bs (fun _ => by have := HS.out; omega) (fun _ => by have := HS.out; omega) (by omega) hx (Bs.emp _) hm
        rw [optN_yes (show 1 < Xm ∧ Xx < Xm ∧ 0 < Xm from ⟨by omega, by omega, by omega⟩), ← HS.out, ← HVr.out] at kr
        replace kr := Lib.hid kr
        go_wp2_with fail
        with_reducible refine (kr.out).mono ?_
        rintro e v4 ⟨adr, cdr, rfl, hr, hu4⟩
        replace hx := hx.keep hu4
        replace hm := hm.keep hu4
        replace hp := hp.keep hu4
        replace hq := hq.keep hu4
        replace u := u.trans hu4
        clear hu4
        go_wp2_with fail
        have ua : Upd0 v4 (v4.alloc (.cells #[.int .u8 1] 5)) := (Upd.refl _ _).alloc _
        have h1 := Bs.one v4 1 (by omega) 5
        replace hx := hx.keep ua
        replace hm := hm.keep ua
        replace hp := hp.keep ua
        replace hq := hq.keep ua
        replace hr := hr.keep ua
        replace u := u.trans ua
        clear ua
        have ks := iMul_bs (fun _ => by have := HS.out; omega) (fun _ => by have := nb_pos1 Xm; omega) (by omega) hx h1 hm
        rw [optN_yes (show 1 < Xm ∧ Xx < Xm ∧ 1 < Xm from ⟨by omega, by omega, by omega⟩), ← HS.out, ← HVs.out] at ks
        replace ks := Lib.hid ks
        go_wp2_with fail
        with_reducible refine (ks.out).mono ?_
        rintro e v5 ⟨ads, cds, rfl, hs, hu5⟩
        replace hx := hx.keep hu5
        replace hm := hm.keep hu5
        replace hp := hp.keep hu5
        replace hq := hq.keep hu5
        replace hr := hr.keep hu5
        replace u := u.trans hu5
        clear hu5
        clear h1
        have kt := set_bs (by have := HS.out; omega) (by omega) (by omega) (by omega) hx hm
        rw [← HS.out] at kt
        replace kt := Lib.hid kt
        go_wp2_with fail
        with_reducible refine (kt.out).mono ?_
        rintro e v6 ⟨adt, cdt, rfl, ht, hu6⟩
        replace hx := hx.keep hu6
        replace hm := hm.keep hu6
        replace hp := hp.keep hu6
        replace hq := hq.keep hu6
        replace hr := hr.keep hu6
        replace hs := hs.keep hu6
        replace u := u.trans hu6
        clear hu6
        go_wp2_with fail
        with_reducible refine (same_eq2 (by omega) hp ht E1.out).mono ?_
        rintro e v7 ⟨rfl, hu7⟩
        replace hx := hx.keep hu7
        replace hm := hm.keep hu7
        replace hp := hp.keep hu7
        replace hq := hq.keep hu7
        replace hr := hr.keep hu7
        replace hs := hs.keep hu7
        replace ht := ht.keep hu7
        replace u := u.trans hu7
        clear hu7
        go_wp2_with fail
        with_reducible refine (same_eq2 (by omega) hq hp E2.out).mono ?_
        rintro e v8 ⟨rfl, hu8⟩
        replace hx := hx.keep hu8
        replace hm := hm.keep hu8
        replace hp := hp.keep hu8
        replace hq := hq.keep hu8
        replace hr := hr.keep hu8
        replace hs := hs.keep hu8
        replace ht := ht.keep hu8
        replace u := u.trans hu8
        clear hu8
        go_wp2_with fail
        with_reducible refine (zero_yes (by omega) hr E3.out).mono ?_
        rintro e v9 ⟨rfl, hu9⟩
        replace hx := hx.keep hu9
        replace hm := hm.keep hu9
        replace hp := hp.keep hu9
        replace hq := hq.keep hu9
        replace hr := hr.keep hu9
        replace hs := hs.keep hu9
        replace ht := ht.keep hu9
        replace u := u.trans hu9
        clear hu9
        go_wp2_with fail
        with_reducible refine (same_eq2 (by omega) hs hp E4.out).mono ?_
        rintro e v10 ⟨rfl, hu10⟩
        replace hx := hx.keep hu10
        replace hm := hm.keep hu10
        replace hp := hp.keep hu10
        replace hq := hq.keep hu10
        replace hr := hr.keep hu10
        replace hs := hs.keep hu10
        replace ht := ht.keep hu10
        replace u := u.trans hu10
        clear hu10
        go_wp2_with fail
        go_ret
        exact ⟨rfl, u⟩

end Go.Proofs.Ytiiihhohfgepfaa
