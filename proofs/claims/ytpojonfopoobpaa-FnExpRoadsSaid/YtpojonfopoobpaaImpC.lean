/-
  Contracts: impl.Mul, Square, Mod, Exp, ExpSelf, ExpShort, ModulusProduct.
-/
import Derived.Test.YtpojonfopoobpaaImpB
import Derived.Test.YtpojonfopoobpaaMulE
import Derived.Test.YtpojonfopoobpaaExpS
import Derived.Test.YtpojonfopoobpaaPrdC
import Derived.Test.YtpojonfopoobpaaGcdC
namespace Go.Proofs.Ytpojonfopoobpaa
open Go.RowKit

set_option maxRecDepth 100000 in
set_option maxHeartbeats 1000000 in
theorem iMul_bs {ax ay am : Option Addr} {nx cx ny cy nm cm X Y M : Nat} {w : World} (hnx : 1 < M → nx ≤ nb M) (hny : 1 < M → ny ≤ nb M) (hnm : nm ≤ 4000) (hx : Bs w ax nx cx X) (hy : Bs w ay ny cy Y) (hm : Bs w am nm cm M) :
    Calls Try.prog 43 #[.slice ax nx cx, .slice ay ny cy, .slice am nm cm] w (RetOpt w (optN (1 < M ∧ X < M ∧ Y < M) M (X * Y % M))) := by
  by_cases h : 1 < M ∧ X < M ∧ Y < M
  · rw [optN_yes h]
    obtain ⟨h1, h2, h3⟩ := h
    replace hnx := hnx h1
    replace hny := hny h1
    go_enter Try.func43, Try.ntmps43
    go_wp2_with fail
    with_reducible refine (iBoth_yes hnx hny (by omega) hx hy hm h1 h2 h3).mono ?_
    rintro e w1 ⟨p, b, c, p2, b2, c2, mp, s, rfl, hx1, hy1, hmod, hsp, hsb, hsp2, hsb2, hne, hws, hu1⟩
    have k1 := Lib.hid (natMul_any hx1 hy1 hmod h2 h3 hsp hsb)
    go_wp2_with fail
    with_reducible refine k1.out.mono ?_
    rintro e w2 ⟨rfl, b9, c9, hx2, hb9, huS⟩
    have hu2 : Upd0 w w2 := hu1.then huS (fun i hi h => by omega)
    have hmod2 := hmod.keep huS (fun k hk h => by omega)
    have HV : X * Y % M < M := Nat.mod_lt _ (by omega)
    have hnbm : nb M ≤ 4000 := Nat.le_trans hm.nb hnm
    go_wp2_with fail
    with_reducible refine (bytes_any _ _ _ (nl M) (X * Y % M) s mp M w2 hx2 hmod2 HV).mono ?_
    rintro e w3 ⟨a3, c3, rfl, hb3, hu3⟩
    go_wp2_with fail
    with_reducible refine (clone_bs (by omega) hb3).mono ?_
    rintro e w4 ⟨a4, c4, rfl, hb4, hu4⟩
    go_wp2_with fail
    go_ret2
    exact ⟨a4, c4, rfl, hb4, (hu2.trans hu3).trans hu4⟩
  · rw [optN_no h]
    go_enter Try.func43, Try.ntmps43
    go_wp2_with fail
    with_reducible refine (iBoth_no hnx hny (by omega) hx hy hm h).mono ?_
    rintro e w1 ⟨x, y, z, rfl, hu1⟩
    go_wp2_with fail
    go_ret2
    exact ⟨rfl, hu1⟩
set_option maxRecDepth 100000 in
set_option maxHeartbeats 1000000 in
theorem iSquare_bs {ax am : Option Addr} {nx cx nm cm X M : Nat} {w : World} (hnx : 1 < M → nx ≤ nb M) (hnm : nm ≤ 4000) (hx : Bs w ax nx cx X) (hm : Bs w am nm cm M) :
    Calls Try.prog 50 #[.slice ax nx cx, .slice am nm cm] w (RetOpt w (optN (1 < M ∧ X < M) M (X * X % M))) := by
  by_cases h : 1 < M ∧ X < M
  · rw [optN_yes h]
    obtain ⟨h1, h2⟩ := h
    replace hnx := hnx h1
    go_enter Try.func50, Try.ntmps50
    go_wp2_with fail
    with_reducible refine (iWithin_yes hnx (by omega) hx hm h1 h2).mono ?_
    rintro e w1 ⟨p, b, c, mp, s, rfl, hx1, hmod, hsp, hsb, hws, hu1⟩
    have k1 := Lib.hid (natMul_any hx1 hx1 hmod h2 h2 hsp hsb)
    go_wp2_with fail
    with_reducible refine k1.out.mono ?_
    rintro e w2 ⟨rfl, b9, c9, hx2, hb9, huS⟩
    have hu2 : Upd0 w w2 := hu1.then huS (fun i hi h => by omega)
    have hmod2 := hmod.keep huS (fun k hk h => by omega)
    have HV : X * X % M < M := Nat.mod_lt _ (by omega)
    have hnbm : nb M ≤ 4000 := Nat.le_trans hm.nb hnm
    go_wp2_with fail
    with_reducible refine (bytes_any _ _ _ (nl M) (X * X % M) s mp M w2 hx2 hmod2 HV).mono ?_
    rintro e w3 ⟨a3, c3, rfl, hb3, hu3⟩
    go_wp2_with fail
    with_reducible refine (clone_bs (by omega) hb3).mono ?_
    rintro e w4 ⟨a4, c4, rfl, hb4, hu4⟩
    go_wp2_with fail
    go_ret2
    exact ⟨a4, c4, rfl, hb4, (hu2.trans hu3).trans hu4⟩
  · rw [optN_no h]
    go_enter Try.func50, Try.ntmps50
    go_wp2_with fail
    with_reducible refine (iWithin_no hnx (by omega) hx hm h).mono ?_
    rintro e w1 ⟨x, y, rfl, hu1⟩
    go_wp2_with fail
    go_ret2
    exact ⟨rfl, hu1⟩
set_option maxRecDepth 100000 in
set_option maxHeartbeats 1000000 in
theorem iMod_bs {ax am : Option Addr} {nx cx nm cm X M : Nat} {w : World} (hnx : nx ≤ 4000) (hnm : nm ≤ 4000) (hx : Bs w ax nx cx X) (hm : Bs w am nm cm M) :
    Calls Try.prog 33 #[.slice ax nx cx, .slice am nm cm] w (RetOpt w (optN (1 < M) M (X % M))) := by
  by_cases h1 : 1 < M
  · rw [optN_yes h1]
    have hnbm : nb M ≤ 4000 := Nat.le_trans hm.nb hnm
    go_enter Try.func33, Try.ntmps33
    go_wp2_with fail
    with_reducible refine (iModulus_yes (by omega) hm h1).mono ?_
    rintro e w1 ⟨mp, rfl, hmod, hu1⟩
    go_wp2_with fail
    with_reducible refine (newNat_any w1).mono ?_
    rintro e w2 ⟨rfl, hx2, hu2, hz2⟩
    replace hz2 := Lib.hid hz2
    go_wp2_with fail
    with_reducible refine (free_bs (by omega) ((hx.keep hu1).keep hu2)).mono ?_
    rintro e w3 ⟨pf, bf, cf, rfl, hxf, hpf, hbf, hu3⟩
    have hz1 := hu1.size
    have hz3 := hz2.out
    have hmod3 := (hmod.keep0 hu2).keep0 hu3
    have k4 := Lib.hid (natMod_any (hx2.keep0 hu3) hxf hmod3 (by omega) (by omega) (by omega) (by omega) (by omega) (by omega))
    go_wp2_with fail
    with_reducible refine k4.out.mono ?_
    rintro e w4 ⟨rfl, b4, c4, hx4, hb4, hu4⟩
    have hu04 : Upd0 w w4 := ((hu1.trans hu2).trans hu3).then hu4 (fun i hi h => by omega)
    have hmod4 := hmod3.keep hu4 (fun k hk h => by omega)
    have HV : X % M < M := Nat.mod_lt _ (by omega)
    go_wp2_with fail
    with_reducible refine (bytes_any _ _ _ (nl M) (X % M) _ mp M w4 hx4 hmod4 HV).mono ?_
    rintro e w5 ⟨a5, c5, rfl, hb5, hu5⟩
    go_wp2_with fail
    with_reducible refine (clone_bs (by omega) hb5).mono ?_
    rintro e w6 ⟨a6, c6, rfl, hb6, hu6⟩
    go_wp2_with fail
    go_ret2
    exact ⟨a6, c6, rfl, hb6, (hu04.trans hu5).trans hu6⟩
  · rw [optN_no h1]
    go_enter Try.func33, Try.ntmps33
    go_wp2_with fail
    with_reducible refine (iModulus_no (by omega) hm h1).mono ?_
    rintro e w1 ⟨rfl, hu1⟩
    go_wp2_with fail
    go_ret2
    exact ⟨rfl, hu1⟩
theorem iodd_yes {a : Option Addr} {n c N : Nat} {w : World} (hn : n ≤ 100000) (h : Bs w a n c N) (h0 : N % 2 = 1) : Calls Try.prog 55 #[.slice a n c] w fun e w' => e = .returned (.bool true) ∧ Upd0 w w' :=
  (ioddT_bs (by omega) h).mono fun _ _ ⟨h1, h2⟩ => ⟨by rw [h1, decide_eq_true h0], by rw [h2]; exact .refl _ _⟩
theorem iodd_no {a : Option Addr} {n c N : Nat} {w : World} (hn : n ≤ 100000) (h : Bs w a n c N) (h0 : ¬ N % 2 = 1) : Calls Try.prog 55 #[.slice a n c] w fun e w' => e = .returned (.bool false) ∧ Upd0 w w' :=
  (ioddT_bs (by omega) h).mono fun _ _ ⟨h1, h2⟩ => ⟨by rw [h1, decide_eq_false h0], by rw [h2]; exact .refl _ _⟩
set_option maxRecDepth 100000 in
set_option maxHeartbeats 1000000 in
theorem iExpShort_neg {ax am : Option Addr} {nx cx nm cm X M : Nat} {z : Int} {w : World} (hnx : 1 < M → nx ≤ nb M) (hnm : nm ≤ 4000) (hx : Bs w ax nx cx X) (hm : Bs w am nm cm M) (hz : z < 0) :
    Calls Try.prog 29 #[.slice ax nx cx, .int .i64 z, .slice am nm cm] w (RetOpt w none) := by
  by_cases h : 1 < M ∧ X < M
  · obtain ⟨h1, h2⟩ := h
    replace hnx := hnx h1
    by_cases ho : M % 2 = 1
    · have HO := Lib.hid ho
      clear ho
      go_enter Try.func29, Try.ntmps29
      go_wp2_with fail
      with_reducible refine (iWithin_yes hnx (by omega) hx hm h1 h2).mono ?_
      rintro e w1 ⟨p, b, c, mp, s, rfl, hx1, hmod, hsp, hsb, hws, hu1⟩
      go_wp2_with fail
      with_reducible refine (iodd_yes (by omega) (hm.keep hu1) HO.out).mono ?_
      rintro e w2 ⟨rfl, hu2⟩
      go_wp2_with fail
      go_ret2
      exact ⟨rfl, hu1.trans hu2⟩
    · have HO := Lib.hid ho
      clear ho
      go_enter Try.func29, Try.ntmps29
      go_wp2_with fail
      with_reducible refine (iWithin_yes hnx (by omega) hx hm h1 h2).mono ?_
      rintro e w1 ⟨p, b, c, mp, s, rfl, hx1, hmod, hsp, hsb, hws, hu1⟩
      go_wp2_with fail
      with_reducible refine (iodd_no (by omega) (hm.keep hu1) HO.out).mono ?_
      rintro e w2 ⟨rfl, hu2⟩
      go_wp2_with fail
      go_ret2
      exact ⟨rfl, hu1.trans hu2⟩
  · go_enter Try.func29, Try.ntmps29
    go_wp2_with fail
    with_reducible refine (iWithin_no hnx (by omega) hx hm h).mono ?_
    rintro e w1 ⟨x, y, rfl, hu1⟩
    go_wp2_with fail
    go_ret2
    exact ⟨rfl, hu1⟩
set_option maxRecDepth 100000 in
set_option maxHeartbeats 1000000 in
theorem iExpShort_bs {ax am : Option Addr} {nx cx nm cm X E M : Nat} {w : World} (hnx : 1 < M → nx ≤ nb M) (hE1 : 1 ≤ E) (hE2 : E ≤ 9223372036854775807) (hnm : nm ≤ 4000) (hx : Bs w ax nx cx X) (hm : Bs w am nm cm M) :
    Calls Try.prog 29 #[.slice ax nx cx, .int .i64 E, .slice am nm cm] w (RetOpt w (optN (1 < M ∧ X < M ∧ M % 2 = 1) M (X ^ E % M))) := by
  by_cases h : 1 < M ∧ X < M
  · obtain ⟨h1, h2⟩ := h
    replace hnx := hnx h1
    have hnbm : nb M ≤ 4000 := Nat.le_trans hm.nb hnm
    by_cases ho : M % 2 = 1
    · rw [optN_yes ⟨h1, h2, ho⟩]
      have HO := Lib.hid ho
      have hEw : IntKind.u64.wrap (E : Int) = (E : Int) := IntWalk.u64_in _ (by omega)
      have hEn : ¬ (E : Int) < 0 := by omega
      clear ho
      go_enter Try.func29, Try.ntmps29
      go_wp2_with fail
      with_reducible refine (iWithin_yes hnx (by omega) hx hm h1 h2).mono ?_
      rintro e w1 ⟨p, b, c, mp, s, rfl, hx1, hmod, hsp, hsb, hws, hu1⟩
      go_wp2_with fail
      with_reducible refine (iodd_yes (by omega) (hm.keep hu1) HO.out).mono ?_
      rintro e w2 ⟨rfl, hu2⟩
      go_wp2_with fail
      with_reducible refine (newNat_any w2).mono ?_
      rintro e w3 ⟨rfl, hx3, hu3, hz3⟩
      replace hz3 := Lib.hid hz3
      have hms := hmod.hs
      have hz1 := hu1.size
      have hz2 := hu2.size
      have hmod3 := (hmod.keep0 hu2).keep0 hu3
      have k4 := Lib.hid (expShort_any (E := E) hx3 ((hx1.keep0 hu2).keep0 hu3) hmod3 HO.out h2 (by omega) (by omega) hE1 (by omega))
      go_wp2_with fail
      with_reducible refine k4.out.mono ?_
      rintro e w4 ⟨rfl, b4, c4, hx4, hb4, hu4⟩
      have hu04 : Upd0 w w4 := ((hu1.trans hu2).trans hu3).then hu4 (fun i hi h => by omega)
      have hmod4 := hmod3.keep hu4 (fun k hk h => by omega)
      have HV : X ^ E % M < M := Nat.mod_lt _ (by omega)
      clear hEw
      go_wp2_with fail
      with_reducible refine (bytes_any _ _ _ (nl M) (X ^ E % M) _ mp M w4 hx4 hmod4 HV).mono ?_
      rintro e w5 ⟨a5, c5, rfl, hb5, hu5⟩
      go_wp2_with fail
      with_reducible refine (clone_bs (by omega) hb5).mono ?_
      rintro e w6 ⟨a6, c6, rfl, hb6, hu6⟩
      go_wp2_with fail
      go_ret2
      exact ⟨a6, c6, rfl, hb6, (hu04.trans hu5).trans hu6⟩
    · rw [optN_no (fun h => ho h.2.2)]
      have HO := Lib.hid ho
      clear ho
      go_enter Try.func29, Try.ntmps29
      go_wp2_with fail
      with_reducible refine (iWithin_yes hnx (by omega) hx hm h1 h2).mono ?_
      rintro e w1 ⟨p, b, c, mp, s, rfl, hx1, hmod, hsp, hsb, hws, hu1⟩
      go_wp2_with fail
      with_reducible refine (iodd_no (by omega) (hm.keep hu1) HO.out).mono ?_
      rintro e w2 ⟨rfl, hu2⟩
      go_wp2_with fail
      go_ret2
      exact ⟨rfl, hu1.trans hu2⟩
  · rw [optN_no (fun h' => h ⟨h'.1, h'.2.1⟩)]
    go_enter Try.func29, Try.ntmps29
    go_wp2_with fail
    with_reducible refine (iWithin_no hnx (by omega) hx hm h).mono ?_
    rintro e w1 ⟨x, y, rfl, hu1⟩
    go_wp2_with fail
    go_ret2
    exact ⟨rfl, hu1⟩
end Go.Proofs.Ytpojonfopoobpaa
