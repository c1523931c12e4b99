/-
  Contracts: impl.Exp, ExpSelf.
-/
import Derived.Test.YtpojonfopoobpaaImpC
import Derived.Test.YtpojonfopoobpaaExpI
namespace Go.Proofs.Ytpojonfopoobpaa
open Go.RowKit

set_option maxRecDepth 100000 in
set_option maxHeartbeats 1000000 in
theorem iExp_bs {ax ae am : Option Addr} {nx cx ne ce nm cm X E M : Nat} {w : World} (hnx : 1 < M → nx ≤ nb M) (hne : ne ≤ 100000) (hnm : nm ≤ 4000) (hx : Bs w ax nx cx X) (he : Bs w ae ne ce E) (hm : Bs w am nm cm M) :
    Calls Try.prog 34 #[.slice ax nx cx, .slice ae ne ce, .slice am nm cm] w (RetOpt w (optN (1 < M ∧ X < M ∧ M % 2 = 1) M (X ^ E % M))) := by
  by_cases h : 1 < M ∧ X < M
  · obtain ⟨h1, h2⟩ := h
    replace hnx := hnx h1
    have hnbm : nb M ≤ 4000 := Nat.le_trans hm.nb hnm
    by_cases ho : M % 2 = 1
    · rw [optN_yes ⟨h1, h2, ho⟩]
      have HO := Lib.hid ho
      clear ho
      go_enter Try.func34, Try.ntmps34
      go_wp2_with fail
      with_reducible refine (iWithin_yes hnx (by omega) hx hm h1 h2).mono ?_
      rintro e w1 ⟨p, b, c, mp, s, rfl, hx1, hmod, hsp, hsb, hws, hu1⟩
      go_wp2_with fail
      with_reducible refine (iodd_yes (by omega) (hm.keep hu1) HO.out).mono ?_
      rintro e w2 ⟨rfl, hu2⟩
      have hms := hmod.hs
      have hz1 := hu1.size
      have hz2 := hu2.size
      have lp1 := hx1.hp
      have lb1 := hx1.hb
      go_wp2_with fail
      with_reducible refine (newNat_any w2).mono ?_
      rintro e w3 ⟨rfl, hxo, hu3, hzz3⟩
      replace hzz3 := Nat.le_of_eq hzz3.symm
      go_wp2_with fail
      with_reducible refine (cloneN (by omega) (((he.keep hu1).keep hu2).keep hu3)).mono ?_
      rintro e w4 ⟨a4, c9, rfl, hB4, hnw, hu4⟩
      have hz3 := hu3.size
      obtain ⟨f, hf, hs4, HB⟩ := hB4
      have hmod4 := ((hmod.keep0 hu2).keep0 hu3).keep0 hu4
      have k5 := exp_any (hxo.keep0 hu4) (((hx1.keep0 hu2).keep0 hu3).keep0 hu4) hmod4 HO.out h2 (by omega) (by omega) hne hf hs4 (fun x off h => by have := hnw x off h; omega)
      rw [HB] at k5
      replace k5 := Lib.hid k5
      clear HB hf hs4
      go_wp2_with fail
      with_reducible refine k5.out.mono ?_
      rintro e wF ⟨rfl, b4, c4, hx4, hb4, hu5⟩
      have hu04 : Upd0 w wF := (((hu1.trans hu2).trans hu3).trans hu4).then hu5 (fun i hi h => by omega)
      have hmodF := hmod4.keep hu5 (fun k hk h => by omega)
      have HV : X ^ E % M < M := Nat.mod_lt _ (by omega)
      go_wp2_with fail
      with_reducible refine (bytes_any _ _ _ (nl M) (X ^ E % M) _ mp M wF hx4 hmodF HV).mono ?_
      rintro e w5 ⟨a5, c5, rfl, hb5, hu6⟩
      go_wp2_with fail
      with_reducible refine (clone_bs (by omega) hb5).mono ?_
      rintro e w6 ⟨a6, c6, rfl, hb6, hu7⟩
      go_wp2_with fail
      go_ret2
      exact ⟨a6, c6, rfl, hb6, (hu04.trans hu6).trans hu7⟩
    · rw [optN_no (fun h => ho h.2.2)]
      have HO := Lib.hid ho
      clear ho
      go_enter Try.func34, Try.ntmps34
      go_wp2_with fail
      with_reducible refine (iWithin_yes hnx (by omega) hx hm h1 h2).mono ?_
      rintro e w1 ⟨p, b, c, mp, s, rfl, hx1, hmod, hsp, hsb, hws, hu1⟩
      go_wp2_with fail
      with_reducible refine (iodd_no (by omega) (hm.keep hu1) HO.out).mono ?_
      rintro e w2 ⟨rfl, hu2⟩
      go_wp2_with fail
      go_ret2
      exact ⟨rfl, hu1.trans hu2⟩
  · rw [optN_no (fun h' => h ⟨h'.1, h'.2.1⟩)]
    go_enter Try.func34, Try.ntmps34
    go_wp2_with fail
    with_reducible refine (iWithin_no hnx (by omega) hx hm h).mono ?_
    rintro e w1 ⟨x, y, rfl, hu1⟩
    go_wp2_with fail
    go_ret2
    exact ⟨rfl, hu1⟩
set_option maxRecDepth 100000 in
set_option maxHeartbeats 1000000 in
theorem iExpSelf_bs {ax ae am : Option Addr} {nx cx ne ce nm cm X E M : Nat} {w : World} (hnx : 1 < M → nx ≤ nb M) (hne : ne ≤ 100000) (hnm : nm ≤ 4000) (hx : Bs w ax nx cx X) (he : Bs w ae ne ce E) (hm : Bs w am nm cm M) :
    Calls Try.prog 42 #[.slice ax nx cx, .slice ae ne ce, .slice am nm cm] w (RetOpt w (optN (1 < M ∧ X < M ∧ M % 2 = 1) M (X ^ E % M))) := by
  by_cases h : 1 < M ∧ X < M
  · obtain ⟨h1, h2⟩ := h
    replace hnx := hnx h1
    have hnbm : nb M ≤ 4000 := Nat.le_trans hm.nb hnm
    by_cases ho : M % 2 = 1
    · rw [optN_yes ⟨h1, h2, ho⟩]
      have HO := Lib.hid ho
      clear ho
      go_enter Try.func42, Try.ntmps42
      go_wp2_with fail
      with_reducible refine (iWithin_yes hnx (by omega) hx hm h1 h2).mono ?_
      rintro e w1 ⟨p, b, c, mp, s, rfl, hx1, hmod, hsp, hsb, hws, hu1⟩
      go_wp2_with fail
      with_reducible refine (iodd_yes (by omega) (hm.keep hu1) HO.out).mono ?_
      rintro e w2 ⟨rfl, hu2⟩
      have hms := hmod.hs
      have hz1 := hu1.size
      have hz2 := hu2.size
      have lp1 := hx1.hp
      have lb1 := hx1.hb
      have hu3 : Upd0 w2 w2 := .refl _ _
      have hxo := hx1.keep0 hu2
      go_wp2_with fail
      with_reducible refine (cloneN (by omega) ((he.keep hu1).keep hu2)).mono ?_
      rintro e w4 ⟨a4, c9, rfl, hB4, hnw, hu4⟩
      have hz3 := hu3.size
      obtain ⟨f, hf, hs4, HB⟩ := hB4
      have hmod4 := ((hmod.keep0 hu2).keep0 hu3).keep0 hu4
      have k5 := exp_any (hxo.keep0 hu4) (((hx1.keep0 hu2).keep0 hu3).keep0 hu4) hmod4 HO.out h2 (by omega) (by omega) hne hf hs4 (fun x off h => by have := hnw x off h; omega)
      rw [HB] at k5
      replace k5 := Lib.hid k5
      clear HB hf hs4
      go_wp2_with fail
      with_reducible refine k5.out.mono ?_
      rintro e wF ⟨rfl, b4, c4, hx4, hb4, hu5⟩
      have hu04 : Upd0 w wF := (((hu1.trans hu2).trans hu3).trans hu4).then hu5 (fun i hi h => by omega)
      have hmodF := hmod4.keep hu5 (fun k hk h => by omega)
      have HV : X ^ E % M < M := Nat.mod_lt _ (by omega)
      go_wp2_with fail
      with_reducible refine (bytes_any _ _ _ (nl M) (X ^ E % M) _ mp M wF hx4 hmodF HV).mono ?_
      rintro e w5 ⟨a5, c5, rfl, hb5, hu6⟩
      go_wp2_with fail
      with_reducible refine (clone_bs (by omega) hb5).mono ?_
      rintro e w6 ⟨a6, c6, rfl, hb6, hu7⟩
      go_wp2_with fail
      go_ret2
      exact ⟨a6, c6, rfl, hb6, (hu04.trans hu6).trans hu7⟩
    · rw [optN_no (fun h => ho h.2.2)]
      have HO := Lib.hid ho
      clear ho
      go_enter Try.func42, Try.ntmps42
      go_wp2_with fail
      with_reducible refine (iWithin_yes hnx (by omega) hx hm h1 h2).mono ?_
      rintro e w1 ⟨p, b, c, mp, s, rfl, hx1, hmod, hsp, hsb, hws, hu1⟩
      go_wp2_with fail
      with_reducible refine (iodd_no (by omega) (hm.keep hu1) HO.out).mono ?_
      rintro e w2 ⟨rfl, hu2⟩
      go_wp2_with fail
      go_ret2
      exact ⟨rfl, hu1.trans hu2⟩
  · rw [optN_no (fun h' => h ⟨h'.1, h'.2.1⟩)]
    go_enter Try.func42, Try.ntmps42
    go_wp2_with fail
    with_reducible refine (iWithin_no hnx (by omega) hx hm h).mono ?_
    rintro e w1 ⟨x, y, rfl, hu1⟩
    go_wp2_with fail
    go_ret2
    exact ⟨rfl, hu1⟩
end Go.Proofs.Ytpojonfopoobpaa
