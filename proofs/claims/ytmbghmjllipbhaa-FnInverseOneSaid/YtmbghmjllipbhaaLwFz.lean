/-
  The laws FnProductOrder, FnInverseOne.
-/
import Derived.Test.YtmbghmjllipbhaaLwIn
import Derived.Test.YtmbghmjllipbhaaImpC
import Derived.Test.YtmbghmjllipbhaaSpecL
import Derived.Test.YtmbghmjllipbhaaRing
namespace Go.Proofs.Ytmbghmjllipbhaa
open Go.RowKit

theorem iBitLen_bs {a : Option Addr} {n c N : Nat} {w : World} (hn : n ≤ 100000) (h : Bs w a n c N) :
    Calls Try.prog 50 #[.slice a n c] w fun e w' => e = .returned (.int .i64 (blen N)) ∧ Upd0 w w' := by
  obtain ⟨f, h1, h2, rfl⟩ := h
  exact iBitLen_any a n c f w hn h1 h2
theorem blen_mul_ge {A B : Nat} (hA : 0 < A) (hB : 0 < B) : blen A + blen B ≤ blen (A * B) + 1 := by
  have h1 := two_pow_le_of_blen (n := A) (k := blen A - 1) (by have := blen_pos (n := A) (by omega); omega)
  have h2 := two_pow_le_of_blen (n := B) (k := blen B - 1) (by have := blen_pos (n := B) (by omega); omega)
  have h3 : 2 ^ (blen A - 1 + (blen B - 1)) ≤ A * B := by rw [Nat.pow_add]; exact Nat.mul_le_mul h1 h2
  have h4 : ¬ blen (A * B) ≤ blen A - 1 + (blen B - 1) := by
    rw [blen_le_iff]; omega
  omega
theorem blen_one {A : Nat} (hA : 0 < A) : blen A = 1 ↔ A = 1 := by
  constructor
  · intro h
    have h1 := (blen_le_iff 1 A).1 (by omega)
    omega
  · rintro rfl; rfl
set_option maxRecDepth 100000 in
set_option maxHeartbeats 4000000 in
theorem law_FnProductOrder (ax : Option Addr) (nx cx : Nat) (fx : Nat → Nat) (ay : Option Addr) (ny cy : Nat) (fy : Nat → Nat) (w : World) (hfx : ∀ i, i < nx → fx i < 256) (hsx : Sl .u8 w ax nx cx fx) (hfy : ∀ i, i < ny → fy i < 256) (hsy : Sl .u8 w ay ny cy fy) :
    Calls Try.prog 13 #[.slice ax nx cx, .slice ay ny cy] w (Holds1 w) := by
  obtain ⟨Xx, HXx⟩ : ∃ X, Hid (X = be fx nx) := ⟨_, rfl⟩
  have hx : Bs w ax nx cx Xx := by rw [HXx.out]; exact .mk' hfx hsx
  clear hfx hsx HXx
  obtain ⟨Xy, HXy⟩ : ∃ X, Hid (X = be fy ny) := ⟨_, rfl⟩
  have hy : Bs w ay ny cy Xy := by rw [HXy.out]; exact .mk' hfy hsy
  clear hfy hsy HXy
  by_cases s0 : 2147483647 < nx
  · go_enter Try.func13, Try.ntmps13
    go_wp2_with fail
    go_ret
    exact ⟨rfl, .refl _ _⟩
  · skip
    by_cases s1 : 2147483647 < ny
    · go_enter Try.func13, Try.ntmps13
      go_wp2_with fail
      go_ret
      exact ⟨rfl, .refl _ _⟩
    · skip
      by_cases t0 : 300 < nx
      · go_enter Try.func13, Try.ntmps13
        have u := Upd.refl (fun _ => False) w
        go_wp2_with fail
        with_reducible refine (long_yes t0 hx).mono ?_
        rintro e v1 ⟨rfl, hu1⟩
        replace hx := hx.keep hu1
        replace hy := hy.keep hu1
        replace u := u.trans hu1
        clear hu1
        go_wp2_with fail
        go_ret
        exact ⟨rfl, u⟩
      · skip
        by_cases t1 : 300 < ny
        · go_enter Try.func13, Try.ntmps13
          have u := Upd.refl (fun _ => False) w
          go_wp2_with fail
          with_reducible refine (long_no t0 hx).mono ?_
          rintro e v1 ⟨rfl, hu1⟩
          replace hx := hx.keep hu1
          replace hy := hy.keep hu1
          replace u := u.trans hu1
          clear hu1
          go_wp2_with fail
          with_reducible refine (long_yes t1 hy).mono ?_
          rintro e v2 ⟨rfl, hu2⟩
          replace hx := hx.keep hu2
          replace hy := hy.keep hu2
          replace u := u.trans hu2
          clear hu2
          go_wp2_with fail
          go_ret
          exact ⟨rfl, u⟩
        · skip
          by_cases t2 : Xx = 0
          · go_enter Try.func13, Try.ntmps13
            have u := Upd.refl (fun _ => False) w
            go_wp2_with fail
            with_reducible refine (long_no t0 hx).mono ?_
            rintro e v1 ⟨rfl, hu1⟩
            replace hx := hx.keep hu1
            replace hy := hy.keep hu1
            replace u := u.trans hu1
            clear hu1
            go_wp2_with fail
            with_reducible refine (long_no t1 hy).mono ?_
            rintro e v2 ⟨rfl, hu2⟩
            replace hx := hx.keep hu2
            replace hy := hy.keep hu2
            replace u := u.trans hu2
            clear hu2
            go_wp2_with fail
            with_reducible refine (zero_yes (by omega) hx t2).mono ?_
            rintro e v3 ⟨rfl, hu3⟩
            replace hx := hx.keep hu3
            replace hy := hy.keep hu3
            replace u := u.trans hu3
            clear hu3
            go_wp2_with fail
            go_ret
            exact ⟨rfl, u⟩
          · skip
            by_cases t3 : Xy = 0
            · go_enter Try.func13, Try.ntmps13
              have u := Upd.refl (fun _ => False) w
              go_wp2_with fail
              with_reducible refine (long_no t0 hx).mono ?_
              rintro e v1 ⟨rfl, hu1⟩
              replace hx := hx.keep hu1
              replace hy := hy.keep hu1
              replace u := u.trans hu1
              clear hu1
              go_wp2_with fail
              with_reducible refine (long_no t1 hy).mono ?_
              rintro e v2 ⟨rfl, hu2⟩
              replace hx := hx.keep hu2
              replace hy := hy.keep hu2
              replace u := u.trans hu2
              clear hu2
              go_wp2_with fail
              with_reducible refine (zero_no (by omega) hx t2).mono ?_
              rintro e v3 ⟨rfl, hu3⟩
              replace hx := hx.keep hu3
              replace hy := hy.keep hu3
              replace u := u.trans hu3
              clear hu3
              go_wp2_with fail
              with_reducible refine (zero_yes (by omega) hy t3).mono ?_
              rintro e v4 ⟨rfl, hu4⟩
              replace hx := hx.keep hu4
              replace hy := hy.keep hu4
              replace u := u.trans hu4
              clear hu4
              go_wp2_with fail
              go_ret
              exact ⟨rfl, u⟩
            · skip
              by_cases hp : 1 < Xx * Xy
              · have hbA := hx.blen
                have hbB := hy.blen
                have hbP1 := blen_mul_le Xx Xy
                have hbP2 := blen_mul_ge (A := Xx) (B := Xy) (by omega) (by omega)
                have hbA0 := blen_pos (n := Xx) (by omega)
                have hbB0 := blen_pos (n := Xy) (by omega)
                have hnP : nb (Xx * Xy) ≤ 1000 := by unfold nb; omega
                obtain ⟨S, HS⟩ : ∃ S, Hid (S = nb (Xx * Xy)) := ⟨_, rfl⟩
                obtain ⟨P, HP⟩ : ∃ P, Hid (P = Xx * Xy) := ⟨_, rfl⟩
                obtain ⟨la, Hla⟩ : ∃ l, Hid (l = blen Xx) := ⟨_, rfl⟩
                obtain ⟨lb, Hlb⟩ : ∃ l, Hid (l = blen Xy) := ⟨_, rfl⟩
                obtain ⟨lp, Hlp⟩ : ∃ l, Hid (l = blen P) := ⟨_, rfl⟩
                have hlp := Hlp.out
                rw [HP.out] at hlp
                rw [← Hla.out, ← Hlb.out, ← hlp] at hbP1 hbP2
                rw [← Hla.out] at hbA0 hbA
                rw [← Hlb.out] at hbB0 hbB
                rw [← HS.out] at hnP
                have hone : ¬ (la = 1 ∧ lb = 1) := fun h => by
                  have h1 := (blen_one (A := Xx) (by omega)).1 (by rw [← Hla.out]; exact h.1)
                  have h2 := (blen_one (A := Xy) (by omega)).1 (by rw [← Hlb.out]; exact h.2)
                  rw [h1, h2] at hp
                  omega
                have hc1 : Xy * Xx = Xx * Xy := Nat.mul_comm _ _
                replace hc1 := Lib.hid hc1
                have H1 := Lib.hid hp
                clear hp hlp
                have hq : la ≠ 1 ∨ (la = 1 ∧ lb ≠ 1) := by omega
                have hz : lp = la + lb ∨ lp + 1 = la + lb := by omega
                rcases hq with hq | ⟨hq, hq2⟩
                · have q1 : (((la : Nat) : Int) == 1) = false := by rw [beq_eq_false_iff_ne]; omega
                  clear hq hone
                  rcases hz with hz | hz
                  · have z1 : ((la : Nat) : Int) + ((lb : Nat) : Int) - ((lp : Nat) : Int) = 0 := by omega
                    clear hz
                    go_enter Try.func13, Try.ntmps13
                    have u := Upd.refl (fun _ => False) w
                    go_wp2_with fail
                    with_reducible refine (long_no t0 hx).mono ?_
                    rintro e v1 ⟨rfl, hu1⟩
                    replace hx := hx.keep hu1
                    replace hy := hy.keep hu1
                    replace u := u.trans hu1
                    clear hu1
                    go_wp2_with fail
                    with_reducible refine (long_no t1 hy).mono ?_
                    rintro e v2 ⟨rfl, hu2⟩
                    replace hx := hx.keep hu2
                    replace hy := hy.keep hu2
                    replace u := u.trans hu2
                    clear hu2
                    go_wp2_with fail
                    with_reducible refine (zero_no (by omega) hx t2).mono ?_
                    rintro e v3 ⟨rfl, hu3⟩
                    replace hx := hx.keep hu3
                    replace hy := hy.keep hu3
                    replace u := u.trans hu3
                    clear hu3
                    go_wp2_with fail
                    with_reducible refine (zero_no (by omega) hy t3).mono ?_
                    rintro e v4 ⟨rfl, hu4⟩
                    replace hx := hx.keep hu4
                    replace hy := hy.keep hu4
                    replace u := u.trans hu4
                    clear hu4
                    have kp := iModulusProduct_bs (by omega) (by omega) (by omega) (by omega) hx hy
                    rw [optN_yes H1.out, ← HS.out, ← HP.out] at kp
                    replace kp := Lib.hid kp
                    go_wp2_with fail
                    with_reducible refine (kp.out).mono ?_
                    rintro e v5 ⟨adp, cdp, rfl, hp, hu5⟩
                    replace hx := hx.keep hu5
                    replace hy := hy.keep hu5
                    replace u := u.trans hu5
                    clear hu5
                    have kq := iModulusProduct_bs (by omega) (by omega) (by omega) (by omega) hy hx
                    rw [hc1.out, optN_yes H1.out, ← HS.out, ← HP.out] at kq
                    replace kq := Lib.hid kq
                    go_wp2_with fail
                    with_reducible refine (kq.out).mono ?_
                    rintro e v6 ⟨adq, cdq, rfl, hq, hu6⟩
                    replace hx := hx.keep hu6
                    replace hy := hy.keep hu6
                    replace hp := hp.keep hu6
                    replace u := u.trans hu6
                    clear hu6
                    have kl := iBitLen_bs (by omega) hx
                    rw [← Hla.out] at kl
                    replace kl := Lib.hid kl
                    go_wp2_with fail
                    with_reducible refine (kl.out).mono ?_
                    rintro e v7 ⟨rfl, hu7⟩
                    replace hx := hx.keep hu7
                    replace hy := hy.keep hu7
                    replace hp := hp.keep hu7
                    replace hq := hq.keep hu7
                    replace u := u.trans hu7
                    clear hu7
                    have kl := iBitLen_bs (by omega) hx
                    rw [← Hla.out] at kl
                    replace kl := Lib.hid kl
                    go_wp2_with fail
                    with_reducible refine (kl.out).mono ?_
                    rintro e v8 ⟨rfl, hu8⟩
                    replace hx := hx.keep hu8
                    replace hy := hy.keep hu8
                    replace hp := hp.keep hu8
                    replace hq := hq.keep hu8
                    replace u := u.trans hu8
                    clear hu8
                    have kl := iBitLen_bs (by omega) hy
                    rw [← Hlb.out] at kl
                    replace kl := Lib.hid kl
                    go_wp2_with fail
                    with_reducible refine (kl.out).mono ?_
                    rintro e v9 ⟨rfl, hu9⟩
                    replace hx := hx.keep hu9
                    replace hy := hy.keep hu9
                    replace hp := hp.keep hu9
                    replace hq := hq.keep hu9
                    replace u := u.trans hu9
                    clear hu9
                    have kl := iBitLen_bs (by omega) hx
                    rw [← Hla.out] at kl
                    replace kl := Lib.hid kl
                    go_wp2_with fail
                    with_reducible refine (kl.out).mono ?_
                    rintro e v10 ⟨rfl, hu10⟩
                    replace hx := hx.keep hu10
                    replace hy := hy.keep hu10
                    replace hp := hp.keep hu10
                    replace hq := hq.keep hu10
                    replace u := u.trans hu10
                    clear hu10
                    have kl := iBitLen_bs (by omega) hy
                    rw [← Hlb.out] at kl
                    replace kl := Lib.hid kl
                    go_wp2_with fail
                    with_reducible refine (kl.out).mono ?_
                    rintro e v11 ⟨rfl, hu11⟩
                    replace hx := hx.keep hu11
                    replace hy := hy.keep hu11
                    replace hp := hp.keep hu11
                    replace hq := hq.keep hu11
                    replace u := u.trans hu11
                    clear hu11
                    have kl := iBitLen_bs (by omega) hp
                    rw [← Hlp.out] at kl
                    replace kl := Lib.hid kl
                    go_wp2_with fail
                    with_reducible refine (kl.out).mono ?_
                    rintro e v12 ⟨rfl, hu12⟩
                    replace hx := hx.keep hu12
                    replace hy := hy.keep hu12
                    replace hp := hp.keep hu12
                    replace hq := hq.keep hu12
                    replace u := u.trans hu12
                    clear hu12
                    go_wp2_with fail
                    with_reducible refine (same_eq (by omega) hp hq).mono ?_
                    rintro e v13 ⟨rfl, hu13⟩
                    replace hx := hx.keep hu13
                    replace hy := hy.keep hu13
                    replace hp := hp.keep hu13
                    replace hq := hq.keep hu13
                    replace u := u.trans hu13
                    clear hu13
                    go_wp2_with fail
                    go_ret
                    exact ⟨rfl, u⟩
                  · have z1 : ((la : Nat) : Int) + ((lb : Nat) : Int) - ((lp : Nat) : Int) = 1 := by omega
                    clear hz
                    go_enter Try.func13, Try.ntmps13
                    have u := Upd.refl (fun _ => False) w
                    go_wp2_with fail
                    with_reducible refine (long_no t0 hx).mono ?_
                    rintro e v1 ⟨rfl, hu1⟩
                    replace hx := hx.keep hu1
                    replace hy := hy.keep hu1
                    replace u := u.trans hu1
                    clear hu1
                    go_wp2_with fail
                    with_reducible refine (long_no t1 hy).mono ?_
                    rintro e v2 ⟨rfl, hu2⟩
                    replace hx := hx.keep hu2
                    replace hy := hy.keep hu2
                    replace u := u.trans hu2
                    clear hu2
                    go_wp2_with fail
                    with_reducible refine (zero_no (by omega) hx t2).mono ?_
                    rintro e v3 ⟨rfl, hu3⟩
                    replace hx := hx.keep hu3
                    replace hy := hy.keep hu3
                    replace u := u.trans hu3
                    clear hu3
                    go_wp2_with fail
                    with_reducible refine (zero_no (by omega) hy t3).mono ?_
                    rintro e v4 ⟨rfl, hu4⟩
                    replace hx := hx.keep hu4
                    replace hy := hy.keep hu4
                    replace u := u.trans hu4
                    clear hu4
                    have kp := iModulusProduct_bs (by omega) (by omega) (by omega) (by omega) hx hy
                    rw [optN_yes H1.out, ← HS.out, ← HP.out] at kp
                    replace kp := Lib.hid kp
                    go_wp2_with fail
                    with_reducible refine (kp.out).mono ?_
                    rintro e v5 ⟨adp, cdp, rfl, hp, hu5⟩
                    replace hx := hx.keep hu5
                    replace hy := hy.keep hu5
                    replace u := u.trans hu5
                    clear hu5
                    have kq := iModulusProduct_bs (by omega) (by omega) (by omega) (by omega) hy hx
                    rw [hc1.out, optN_yes H1.out, ← HS.out, ← HP.out] at kq
                    replace kq := Lib.hid kq
                    go_wp2_with fail
                    with_reducible refine (kq.out).mono ?_
                    rintro e v6 ⟨adq, cdq, rfl, hq, hu6⟩
                    replace hx := hx.keep hu6
                    replace hy := hy.keep hu6
                    replace hp := hp.keep hu6
                    replace u := u.trans hu6
                    clear hu6
                    have kl := iBitLen_bs (by omega) hx
                    rw [← Hla.out] at kl
                    replace kl := Lib.hid kl
                    go_wp2_with fail
                    with_reducible refine (kl.out).mono ?_
                    rintro e v7 ⟨rfl, hu7⟩
                    replace hx := hx.keep hu7
                    replace hy := hy.keep hu7
                    replace hp := hp.keep hu7
                    replace hq := hq.keep hu7
                    replace u := u.trans hu7
                    clear hu7
                    have kl := iBitLen_bs (by omega) hx
                    rw [← Hla.out] at kl
                    replace kl := Lib.hid kl
                    go_wp2_with fail
                    with_reducible refine (kl.out).mono ?_
                    rintro e v8 ⟨rfl, hu8⟩
                    replace hx := hx.keep hu8
                    replace hy := hy.keep hu8
                    replace hp := hp.keep hu8
                    replace hq := hq.keep hu8
                    replace u := u.trans hu8
                    clear hu8
                    have kl := iBitLen_bs (by omega) hy
                    rw [← Hlb.out] at kl
                    replace kl := Lib.hid kl
                    go_wp2_with fail
                    with_reducible refine (kl.out).mono ?_
                    rintro e v9 ⟨rfl, hu9⟩
                    replace hx := hx.keep hu9
                    replace hy := hy.keep hu9
                    replace hp := hp.keep hu9
                    replace hq := hq.keep hu9
                    replace u := u.trans hu9
                    clear hu9
                    have kl := iBitLen_bs (by omega) hx
                    rw [← Hla.out] at kl
                    replace kl := Lib.hid kl
                    go_wp2_with fail
                    with_reducible refine (kl.out).mono ?_
                    rintro e v10 ⟨rfl, hu10⟩
                    replace hx := hx.keep hu10
                    replace hy := hy.keep hu10
                    replace hp := hp.keep hu10
                    replace hq := hq.keep hu10
                    replace u := u.trans hu10
                    clear hu10
                    have kl := iBitLen_bs (by omega) hy
                    rw [← Hlb.out] at kl
                    replace kl := Lib.hid kl
                    go_wp2_with fail
                    with_reducible refine (kl.out).mono ?_
                    rintro e v11 ⟨rfl, hu11⟩
                    replace hx := hx.keep hu11
                    replace hy := hy.keep hu11
                    replace hp := hp.keep hu11
                    replace hq := hq.keep hu11
                    replace u := u.trans hu11
                    clear hu11
                    have kl := iBitLen_bs (by omega) hp
                    rw [← Hlp.out] at kl
                    replace kl := Lib.hid kl
                    go_wp2_with fail
                    with_reducible refine (kl.out).mono ?_
                    rintro e v12 ⟨rfl, hu12⟩
                    replace hx := hx.keep hu12
                    replace hy := hy.keep hu12
                    replace hp := hp.keep hu12
                    replace hq := hq.keep hu12
                    replace u := u.trans hu12
                    clear hu12
                    go_wp2_with fail
                    with_reducible refine (same_eq (by omega) hp hq).mono ?_
                    rintro e v13 ⟨rfl, hu13⟩
                    replace hx := hx.keep hu13
                    replace hy := hy.keep hu13
                    replace hp := hp.keep hu13
                    replace hq := hq.keep hu13
                    replace u := u.trans hu13
                    clear hu13
                    go_wp2_with fail
                    go_ret
                    exact ⟨rfl, u⟩
                · have q1 : (((la : Nat) : Int) == 1) = true := by rw [beq_iff_eq]; omega
                  have q2 : (((lb : Nat) : Int) == 1) = false := by rw [beq_eq_false_iff_ne]; omega
                  clear hq2
                  clear hq hone
                  rcases hz with hz | hz
                  · have z1 : ((la : Nat) : Int) + ((lb : Nat) : Int) - ((lp : Nat) : Int) = 0 := by omega
                    clear hz
                    go_enter Try.func13, Try.ntmps13
                    have u := Upd.refl (fun _ => False) w
                    go_wp2_with fail
                    with_reducible refine (long_no t0 hx).mono ?_
                    rintro e v1 ⟨rfl, hu1⟩
                    replace hx := hx.keep hu1
                    replace hy := hy.keep hu1
                    replace u := u.trans hu1
                    clear hu1
                    go_wp2_with fail
                    with_reducible refine (long_no t1 hy).mono ?_
                    rintro e v2 ⟨rfl, hu2⟩
                    replace hx := hx.keep hu2
                    replace hy := hy.keep hu2
                    replace u := u.trans hu2
                    clear hu2
                    go_wp2_with fail
                    with_reducible refine (zero_no (by omega) hx t2).mono ?_
                    rintro e v3 ⟨rfl, hu3⟩
                    replace hx := hx.keep hu3
                    replace hy := hy.keep hu3
                    replace u := u.trans hu3
                    clear hu3
                    go_wp2_with fail
                    with_reducible refine (zero_no (by omega) hy t3).mono ?_
                    rintro e v4 ⟨rfl, hu4⟩
                    replace hx := hx.keep hu4
                    replace hy := hy.keep hu4
                    replace u := u.trans hu4
                    clear hu4
                    have kp := iModulusProduct_bs (by omega) (by omega) (by omega) (by omega) hx hy
                    rw [optN_yes H1.out, ← HS.out, ← HP.out] at kp
                    replace kp := Lib.hid kp
                    go_wp2_with fail
                    with_reducible refine (kp.out).mono ?_
                    rintro e v5 ⟨adp, cdp, rfl, hp, hu5⟩
                    replace hx := hx.keep hu5
                    replace hy := hy.keep hu5
                    replace u := u.trans hu5
                    clear hu5
                    have kq := iModulusProduct_bs (by omega) (by omega) (by omega) (by omega) hy hx
                    rw [hc1.out, optN_yes H1.out, ← HS.out, ← HP.out] at kq
                    replace kq := Lib.hid kq
                    go_wp2_with fail
                    with_reducible refine (kq.out).mono ?_
                    rintro e v6 ⟨adq, cdq, rfl, hq, hu6⟩
                    replace hx := hx.keep hu6
                    replace hy := hy.keep hu6
                    replace hp := hp.keep hu6
                    replace u := u.trans hu6
                    clear hu6
                    have kl := iBitLen_bs (by omega) hx
                    rw [← Hla.out] at kl
                    replace kl := Lib.hid kl
                    go_wp2_with fail
                    with_reducible refine (kl.out).mono ?_
                    rintro e v7 ⟨rfl, hu7⟩
                    replace hx := hx.keep hu7
                    replace hy := hy.keep hu7
                    replace hp := hp.keep hu7
                    replace hq := hq.keep hu7
                    replace u := u.trans hu7
                    clear hu7
                    have kl := iBitLen_bs (by omega) hy
                    rw [← Hlb.out] at kl
                    replace kl := Lib.hid kl
                    go_wp2_with fail
                    with_reducible refine (kl.out).mono ?_
                    rintro e v8 ⟨rfl, hu8⟩
                    replace hx := hx.keep hu8
                    replace hy := hy.keep hu8
                    replace hp := hp.keep hu8
                    replace hq := hq.keep hu8
                    replace u := u.trans hu8
                    clear hu8
                    have kl := iBitLen_bs (by omega) hx
                    rw [← Hla.out] at kl
                    replace kl := Lib.hid kl
                    go_wp2_with fail
                    with_reducible refine (kl.out).mono ?_
                    rintro e v9 ⟨rfl, hu9⟩
                    replace hx := hx.keep hu9
                    replace hy := hy.keep hu9
                    replace hp := hp.keep hu9
                    replace hq := hq.keep hu9
                    replace u := u.trans hu9
                    clear hu9
                    have kl := iBitLen_bs (by omega) hy
                    rw [← Hlb.out] at kl
                    replace kl := Lib.hid kl
                    go_wp2_with fail
                    with_reducible refine (kl.out).mono ?_
                    rintro e v10 ⟨rfl, hu10⟩
                    replace hx := hx.keep hu10
                    replace hy := hy.keep hu10
                    replace hp := hp.keep hu10
                    replace hq := hq.keep hu10
                    replace u := u.trans hu10
                    clear hu10
                    have kl := iBitLen_bs (by omega) hx
                    rw [← Hla.out] at kl
                    replace kl := Lib.hid kl
                    go_wp2_with fail
                    with_reducible refine (kl.out).mono ?_
                    rintro e v11 ⟨rfl, hu11⟩
                    replace hx := hx.keep hu11
                    replace hy := hy.keep hu11
                    replace hp := hp.keep hu11
                    replace hq := hq.keep hu11
                    replace u := u.trans hu11
                    clear hu11
                    have kl := iBitLen_bs (by omega) hy
                    rw [← Hlb.out] at kl
                    replace kl := Lib.hid kl
                    go_wp2_with fail
                    with_reducible refine (kl.out).mono ?_
                    rintro e v12 ⟨rfl, hu12⟩
                    replace hx := hx.keep hu12
                    replace hy := hy.keep hu12
                    replace hp := hp.keep hu12
                    replace hq := hq.keep hu12
                    replace u := u.trans hu12
                    clear hu12
                    have kl := iBitLen_bs (by omega) hp
                    rw [← Hlp.out] at kl
                    replace kl := Lib.hid kl
                    go_wp2_with fail
                    with_reducible refine (kl.out).mono ?_
                    rintro e v13 ⟨rfl, hu13⟩
                    replace hx := hx.keep hu13
                    replace hy := hy.keep hu13
                    replace hp := hp.keep hu13
                    replace hq := hq.keep hu13
                    replace u := u.trans hu13
                    clear hu13
                    go_wp2_with fail
                    with_reducible refine (same_eq (by omega) hp hq).mono ?_
                    rintro e v14 ⟨rfl, hu14⟩
                    replace hx := hx.keep hu14
                    replace hy := hy.keep hu14
                    replace hp := hp.keep hu14
                    replace hq := hq.keep hu14
                    replace u := u.trans hu14
                    clear hu14
                    go_wp2_with fail
                    go_ret
                    exact ⟨rfl, u⟩
                  · have z1 : ((la : Nat) : Int) + ((lb : Nat) : Int) - ((lp : Nat) : Int) = 1 := by omega
                    clear hz
                    go_enter Try.func13, Try.ntmps13
                    have u := Upd.refl (fun _ => False) w
                    go_wp2_with fail
                    with_reducible refine (long_no t0 hx).mono ?_
                    rintro e v1 ⟨rfl, hu1⟩
                    replace hx := hx.keep hu1
                    replace hy := hy.keep hu1
                    replace u := u.trans hu1
                    clear hu1
                    go_wp2_with fail
                    with_reducible refine (long_no t1 hy).mono ?_
                    rintro e v2 ⟨rfl, hu2⟩
                    replace hx := hx.keep hu2
                    replace hy := hy.keep hu2
                    replace u := u.trans hu2
                    clear hu2
                    go_wp2_with fail
                    with_reducible refine (zero_no (by omega) hx t2).mono ?_
                    rintro e v3 ⟨rfl, hu3⟩
                    replace hx := hx.keep hu3
                    replace hy := hy.keep hu3
                    replace u := u.trans hu3
                    clear hu3
                    go_wp2_with fail
                    with_reducible refine (zero_no (by omega) hy t3).mono ?_
                    rintro e v4 ⟨rfl, hu4⟩
                    replace hx := hx.keep hu4
                    replace hy := hy.keep hu4
                    replace u := u.trans hu4
                    clear hu4
                    have kp := iModulusProduct_bs (by omega) (by omega) (by omega) (by omega) hx hy
                    rw [optN_yes H1.out, ← HS.out, ← HP.out] at kp
                    replace kp := Lib.hid kp
                    go_wp2_with fail
                    with_reducible refine (kp.out).mono ?_
                    rintro e v5 ⟨adp, cdp, rfl, hp, hu5⟩
                    replace hx := hx.keep hu5
                    replace hy := hy.keep hu5
                    replace u := u.trans hu5
                    clear hu5
                    have kq := iModulusProduct_bs (by omega) (by omega) (by omega) (by omega) hy hx
                    rw [hc1.out, optN_yes H1.out, ← HS.out, ← HP.out] at kq
                    replace kq := Lib.hid kq
                    go_wp2_with fail
                    with_reducible refine (kq.out).mono ?_
                    rintro e v6 ⟨adq, cdq, rfl, hq, hu6⟩
                    replace hx := hx.keep hu6
                    replace hy := hy.keep hu6
                    replace hp := hp.keep hu6
                    replace u := u.trans hu6
                    clear hu6
                    have kl := iBitLen_bs (by omega) hx
                    rw [← Hla.out] at kl
                    replace kl := Lib.hid kl
                    go_wp2_with fail
                    with_reducible refine (kl.out).mono ?_
                    rintro e v7 ⟨rfl, hu7⟩
                    replace hx := hx.keep hu7
                    replace hy := hy.keep hu7
                    replace hp := hp.keep hu7
                    replace hq := hq.keep hu7
                    replace u := u.trans hu7
                    clear hu7
                    have kl := iBitLen_bs (by omega) hy
                    rw [← Hlb.out] at kl
                    replace kl := Lib.hid kl
                    go_wp2_with fail
                    with_reducible refine (kl.out).mono ?_
                    rintro e v8 ⟨rfl, hu8⟩
                    replace hx := hx.keep hu8
                    replace hy := hy.keep hu8
                    replace hp := hp.keep hu8
                    replace hq := hq.keep hu8
                    replace u := u.trans hu8
                    clear hu8
                    have kl := iBitLen_bs (by omega) hx
                    rw [← Hla.out] at kl
                    replace kl := Lib.hid kl
                    go_wp2_with fail
                    with_reducible refine (kl.out).mono ?_
                    rintro e v9 ⟨rfl, hu9⟩
                    replace hx := hx.keep hu9
                    replace hy := hy.keep hu9
                    replace hp := hp.keep hu9
                    replace hq := hq.keep hu9
                    replace u := u.trans hu9
                    clear hu9
                    have kl := iBitLen_bs (by omega) hy
                    rw [← Hlb.out] at kl
                    replace kl := Lib.hid kl
                    go_wp2_with fail
                    with_reducible refine (kl.out).mono ?_
                    rintro e v10 ⟨rfl, hu10⟩
                    replace hx := hx.keep hu10
                    replace hy := hy.keep hu10
                    replace hp := hp.keep hu10
                    replace hq := hq.keep hu10
                    replace u := u.trans hu10
                    clear hu10
                    have kl := iBitLen_bs (by omega) hx
                    rw [← Hla.out] at kl
                    replace kl := Lib.hid kl
                    go_wp2_with fail
                    with_reducible refine (kl.out).mono ?_
                    rintro e v11 ⟨rfl, hu11⟩
                    replace hx := hx.keep hu11
                    replace hy := hy.keep hu11
                    replace hp := hp.keep hu11
                    replace hq := hq.keep hu11
                    replace u := u.trans hu11
                    clear hu11
                    have kl := iBitLen_bs (by omega) hy
                    rw [← Hlb.out] at kl
                    replace kl := Lib.hid kl
                    go_wp2_with fail
                    with_reducible refine (kl.out).mono ?_
                    rintro e v12 ⟨rfl, hu12⟩
                    replace hx := hx.keep hu12
                    replace hy := hy.keep hu12
                    replace hp := hp.keep hu12
                    replace hq := hq.keep hu12
                    replace u := u.trans hu12
                    clear hu12
                    have kl := iBitLen_bs (by omega) hp
                    rw [← Hlp.out] at kl
                    replace kl := Lib.hid kl
                    go_wp2_with fail
                    with_reducible refine (kl.out).mono ?_
                    rintro e v13 ⟨rfl, hu13⟩
                    replace hx := hx.keep hu13
                    replace hy := hy.keep hu13
                    replace hp := hp.keep hu13
                    replace hq := hq.keep hu13
                    replace u := u.trans hu13
                    clear hu13
                    go_wp2_with fail
                    with_reducible refine (same_eq (by omega) hp hq).mono ?_
                    rintro e v14 ⟨rfl, hu14⟩
                    replace hx := hx.keep hu14
                    replace hy := hy.keep hu14
                    replace hp := hp.keep hu14
                    replace hq := hq.keep hu14
                    replace u := u.trans hu14
                    clear hu14
                    go_wp2_with fail
                    go_ret
                    exact ⟨rfl, u⟩
              · have hpos : 0 < Xx * Xy := Nat.mul_pos (by omega) (by omega)
                have hP1 : Xx * Xy = 1 := by omega
                have hA1 : Xx = 1 := Nat.eq_one_of_mul_eq_one_right hP1
                have hB1 : Xy = 1 := Nat.eq_one_of_mul_eq_one_left hP1
                subst hA1 hB1
                clear hpos hP1 hp
                go_enter Try.func13, Try.ntmps13
                have u := Upd.refl (fun _ => False) w
                go_wp2_with fail
                with_reducible refine (long_no t0 hx).mono ?_
                rintro e v1 ⟨rfl, hu1⟩
                replace hx := hx.keep hu1
                replace hy := hy.keep hu1
                replace u := u.trans hu1
                clear hu1
                go_wp2_with fail
                with_reducible refine (long_no t1 hy).mono ?_
                rintro e v2 ⟨rfl, hu2⟩
                replace hx := hx.keep hu2
                replace hy := hy.keep hu2
                replace u := u.trans hu2
                clear hu2
                go_wp2_with fail
                with_reducible refine (zero_no (by omega) hx t2).mono ?_
                rintro e v3 ⟨rfl, hu3⟩
                replace hx := hx.keep hu3
                replace hy := hy.keep hu3
                replace u := u.trans hu3
                clear hu3
                go_wp2_with fail
                with_reducible refine (zero_no (by omega) hy t3).mono ?_
                rintro e v4 ⟨rfl, hu4⟩
                replace hx := hx.keep hu4
                replace hy := hy.keep hu4
                replace u := u.trans hu4
                clear hu4
                have kp := iModulusProduct_bs (by omega) (by omega) (by omega) (by omega) hx hy
                rw [optN_no (by omega)] at kp
                replace kp := Lib.hid kp
                go_wp2_with fail
                with_reducible refine (kp.out).mono ?_
                rintro e v5 ⟨rfl, hu5⟩
                replace hx := hx.keep hu5
                replace hy := hy.keep hu5
                replace u := u.trans hu5
                clear hu5
                have kq := iModulusProduct_bs (by omega) (by omega) (by omega) (by omega) hy hx
                rw [optN_no (by omega)] at kq
                replace kq := Lib.hid kq
                go_wp2_with fail
                with_reducible refine (kq.out).mono ?_
                rintro e v6 ⟨rfl, hu6⟩
                replace hx := hx.keep hu6
                replace hy := hy.keep hu6
                replace u := u.trans hu6
                clear hu6
                have kl := iBitLen_bs (by omega) hx
                rw [show blen 1 = 1 from rfl] at kl
                replace kl := Lib.hid kl
                go_wp2_with fail
                with_reducible refine (kl.out).mono ?_
                rintro e v7 ⟨rfl, hu7⟩
                replace hx := hx.keep hu7
                replace hy := hy.keep hu7
                replace u := u.trans hu7
                clear hu7
                have kl := iBitLen_bs (by omega) hy
                rw [show blen 1 = 1 from rfl] at kl
                replace kl := Lib.hid kl
                go_wp2_with fail
                with_reducible refine (kl.out).mono ?_
                rintro e v8 ⟨rfl, hu8⟩
                replace hx := hx.keep hu8
                replace hy := hy.keep hu8
                replace u := u.trans hu8
                clear hu8
                go_wp2_with fail
                with_reducible refine (odd_yes (by omega) hx (by omega)).mono ?_
                rintro e v9 ⟨rfl, hu9⟩
                replace hx := hx.keep hu9
                replace hy := hy.keep hu9
                replace u := u.trans hu9
                clear hu9
                go_wp2_with fail
                with_reducible refine (odd_yes (by omega) hy (by omega)).mono ?_
                rintro e v10 ⟨rfl, hu10⟩
                replace hx := hx.keep hu10
                replace hy := hy.keep hu10
                replace u := u.trans hu10
                clear hu10
                go_wp2_with fail
                go_ret
                exact ⟨rfl, u⟩

set_option maxRecDepth 100000 in
set_option maxHeartbeats 4000000 in
theorem law_FnInverseOne (ax : Option Addr) (nx cx : Nat) (fx : Nat → Nat) (am : Option Addr) (nm cm : Nat) (fm : Nat → Nat) (w : World) (hfx : ∀ i, i < nx → fx i < 256) (hsx : Sl .u8 w ax nx cx fx) (hfm : ∀ i, i < nm → fm i < 256) (hsm : Sl .u8 w am nm cm fm) :
    Calls Try.prog 3 #[.slice ax nx cx, .slice am nm cm] w (Holds1 w) := by
  obtain ⟨Xx, HXx⟩ : ∃ X, Hid (X = be fx nx) := ⟨_, rfl⟩
  have hx : Bs w ax nx cx Xx := by rw [HXx.out]; exact .mk' hfx hsx
  clear hfx hsx HXx
  obtain ⟨Xm, HXm⟩ : ∃ X, Hid (X = be fm nm) := ⟨_, rfl⟩
  have hm : Bs w am nm cm Xm := by rw [HXm.out]; exact .mk' hfm hsm
  clear hfm hsm HXm
  by_cases s0 : 2147483647 < nx
  · go_enter Try.func3, Try.ntmps3
    go_wp2_with fail
    go_ret
    exact ⟨rfl, .refl _ _⟩
  · skip
    by_cases s1 : 2147483647 < nm
    · go_enter Try.func3, Try.ntmps3
      go_wp2_with fail
      go_ret
      exact ⟨rfl, .refl _ _⟩
    · skip
      by_cases t0 : ¬ (nm ≤ 300 ∧ nx ≤ 300 ∧ nx ≤ nb Xm ∧ 1 < Xm ∧ Xx < Xm)
      · go_enter Try.func3, Try.ntmps3
        have u := Upd.refl (fun _ => False) w
        go_wp2_with fail
        with_reducible refine (in_no t0 hx hm).mono ?_
        rintro e v1 ⟨rfl, hu1⟩
        replace hx := hx.keep hu1
        replace hm := hm.keep hu1
        replace u := u.trans hu1
        clear hu1
        go_wp2_with fail
        go_ret
        exact ⟨rfl, u⟩
      · skip
        by_cases hg : Nat.gcd Xx Xm = 1
        · have HG := Lib.hid hg
          clear hg
          obtain ⟨S, HS⟩ : ∃ S, Hid (S = nb Xm) := ⟨_, rfl⟩
          have hSb : S ≤ 300 := by rw [HS.out]; exact Nat.le_trans hm.nb (by omega)
          have Rx : RM Xm Xx (Xx : Int) := .base _ _
          have Rnil : RM Xm 0 0 := .zero _
          have Rone : RM Xm 1 1 := .one _
          obtain ⟨Vp, HVp⟩ : ∃ V, Hid (V = invN Xx Xm) := ⟨_, rfl⟩
          have lp : Vp < Xm := by rw [HVp.out]; exact (invN_is (by omega) (by omega) HG.out).lt
          have ip : Hid (IsInv Xx Xm Vp) := by show IsInv _ _ _; rw [HVp.out]; exact invN_is (by omega) (by omega) HG.out
          have HG2 : Hid (Nat.gcd Vp Xm = 1) := IsInv.gcd (X := Xx) ⟨by omega, by rw [Nat.mul_comm]; exact ip.out.eq⟩ (by omega)
          have Rp : RM Xm Vp (Vp : Int) := .base _ _
          obtain ⟨Vq, HVq⟩ : ∃ V, Hid (V = (Xx * Vp) % Xm) := ⟨_, rfl⟩
          have lq : Vq < Xm := by rw [HVq.out]; exact Nat.mod_lt _ (by omega)
          have Rq := RM.mulm HVq.out Rx Rp
          have Hq1 : Hid (Vq = 1) := by show _ = _; rw [HVq.out, Nat.mul_comm, ip.out.eq, Nat.mod_eq_of_lt (by omega)]
          have Hq2 : Hid (eqN Vq 1 = 1) := by show _ = _; rw [Hq1.out]; rfl
          obtain ⟨Vr, HVr⟩ : ∃ V, Hid (V = invN Vp Xm) := ⟨_, rfl⟩
          have lr : Vr < Xm := by rw [HVr.out]; exact (invN_is (by omega) (by omega) HG2.out).lt
          have Hr1 : Hid (Vr = Xx) := by show _ = _; rw [HVr.out]; exact (IsInv.invN (a := Vp) (m := Xm) (X := Xx) ⟨by omega, by rw [Nat.mul_comm]; exact ip.out.eq⟩).symm
          have Rt := Rx
          have E1 : Hid (Vr = Xx) := by
            show _ = _
            exact Hr1.out
          clear Rt Rq Rp Rone Rnil Rx
          go_enter Try.func3, Try.ntmps3
          have u := Upd.refl (fun _ => False) w
          go_wp2_with fail
          with_reducible refine (in_yes t0 hx hm).mono ?_
          rintro e v1 ⟨rfl, hu1⟩
          replace hx := hx.keep hu1
          replace hm := hm.keep hu1
          replace u := u.trans hu1
          clear hu1
          have kp := iInverse_bs (fun _ => by have := HS.out; omega) (by omega) hx hm
          rw [optN_yes (show 1 < Xm ∧ Xx < Xm ∧ Nat.gcd Xx Xm = 1 from ⟨by omega, by omega, HG.out⟩), ← HS.out, ← HVp.out] at kp
          replace kp := Lib.hid kp
          go_wp2_with fail
          with_reducible refine (kp.out).mono ?_
          rintro e v2 ⟨adp, cdp, rfl, hp, hu2⟩
          replace hx := hx.keep hu2
          replace hm := hm.keep hu2
          replace u := u.trans hu2
          clear hu2
          have kp2 := sInverse_bs (by omega) (by omega) hx hm
          rw [optN_yes (show 1 < Xm ∧ Xx < Xm ∧ Nat.gcd Xx Xm = 1 from ⟨by omega, by omega, HG.out⟩), ← HS.out, ← HVp.out] at kp2
          replace kp2 := Lib.hid kp2
          go_wp2_with fail
          with_reducible refine (kp2.out).mono ?_
          rintro e v3 ⟨adp2, cdp2, rfl, hp2, hu3⟩
          replace hx := hx.keep hu3
          replace hm := hm.keep hu3
          replace hp := hp.keep hu3
          replace u := u.trans hu3
          clear hu3
          have kq := iMul_bs (fun _ => by have := HS.out; omega) (fun _ => by have := HS.out; omega) (by omega) hx hp hm
          rw [optN_yes (show 1 < Xm ∧ Xx < Xm ∧ Vp < Xm from ⟨by omega, by omega, by omega⟩), ← HS.out, ← HVq.out] at kq
          replace kq := Lib.hid kq
          go_wp2_with fail
          with_reducible refine (kq.out).mono ?_
          rintro e v4 ⟨adq, cdq, rfl, hq, hu4⟩
          replace hx := hx.keep hu4
          replace hm := hm.keep hu4
          replace hp := hp.keep hu4
          replace hp2 := hp2.keep hu4
          replace u := u.trans hu4
          clear hu4
          have kt := iIsOne_bs (fun _ => by have := HS.out; omega) (by omega) hq hm
          rw [optI_yes (show 1 < Xm ∧ Vq < Xm from ⟨by omega, by omega⟩), Hq2.out] at kt
          replace kt := Lib.hid kt
          go_wp2_with fail
          with_reducible refine (kt.out).mono ?_
          rintro e v5 ⟨rfl, hu5⟩
          replace hx := hx.keep hu5
          replace hm := hm.keep hu5
          replace hp := hp.keep hu5
          replace hp2 := hp2.keep hu5
          replace hq := hq.keep hu5
          replace u := u.trans hu5
          clear hu5
          have kr := iInverse_bs (fun _ => by have := HS.out; omega) (by omega) hp hm
          rw [optN_yes (show 1 < Xm ∧ Vp < Xm ∧ Nat.gcd Vp Xm = 1 from ⟨by omega, by omega, HG2.out⟩), ← HS.out, ← HVr.out] at kr
          replace kr := Lib.hid kr
          go_wp2_with fail
          with_reducible refine (kr.out).mono ?_
          rintro e v6 ⟨adr, cdr, rfl, hr, hu6⟩
          replace hx := hx.keep hu6
          replace hm := hm.keep hu6
          replace hp := hp.keep hu6
          replace hp2 := hp2.keep hu6
          replace hq := hq.keep hu6
          replace u := u.trans hu6
          clear hu6
          have kt := set_bs (by have := HS.out; omega) (by omega) (by omega) (by omega) hx hm
          rw [← HS.out] at kt
          replace kt := Lib.hid kt
          go_wp2_with fail
          with_reducible refine (kt.out).mono ?_
          rintro e v7 ⟨adt, cdt, rfl, ht, hu7⟩
          replace hx := hx.keep hu7
          replace hm := hm.keep hu7
          replace hp := hp.keep hu7
          replace hp2 := hp2.keep hu7
          replace hq := hq.keep hu7
          replace hr := hr.keep hu7
          replace u := u.trans hu7
          clear hu7
          go_wp2_with fail
          with_reducible refine (same_eq2 (by omega) hr ht E1.out).mono ?_
          rintro e v8 ⟨rfl, hu8⟩
          replace hx := hx.keep hu8
          replace hm := hm.keep hu8
          replace hp := hp.keep hu8
          replace hp2 := hp2.keep hu8
          replace hq := hq.keep hu8
          replace hr := hr.keep hu8
          replace ht := ht.keep hu8
          replace u := u.trans hu8
          clear hu8
          go_wp2_with fail
          go_ret
          exact ⟨rfl, u⟩
        · have HG := Lib.hid hg
          clear hg
          go_enter Try.func3, Try.ntmps3
          have u := Upd.refl (fun _ => False) w
          go_wp2_with fail
          with_reducible refine (in_yes t0 hx hm).mono ?_
          rintro e v1 ⟨rfl, hu1⟩
          replace hx := hx.keep hu1
          replace hm := hm.keep hu1
          replace u := u.trans hu1
          clear hu1
          have kp := iInverse_bs (fun _ => by omega) (by omega) hx hm
          rw [optN_no (fun h => HG.out h.2.2)] at kp
          replace kp := Lib.hid kp
          go_wp2_with fail
          with_reducible refine (kp.out).mono ?_
          rintro e v2 ⟨rfl, hu2⟩
          replace hx := hx.keep hu2
          replace hm := hm.keep hu2
          replace u := u.trans hu2
          clear hu2
          have kq := sInverse_bs (by omega) (by omega) hx hm
          rw [optN_no (fun h => HG.out h.2.2)] at kq
          replace kq := Lib.hid kq
          go_wp2_with fail
          with_reducible refine (kq.out).mono ?_
          rintro e v3 ⟨rfl, hu3⟩
          replace hx := hx.keep hu3
          replace hm := hm.keep hu3
          replace u := u.trans hu3
          clear hu3
          go_wp2_with fail
          go_ret
          exact ⟨rfl, u⟩

end Go.Proofs.Ytmbghmjllipbhaa
