/-
  Contracts: impl.Mul, Square, Mod, Exp, ExpSelf, ExpShort, ModulusProduct.
-/
import Derived.Test.YtiiihhohfgepfaaImpB
import Derived.Test.YtiiihhohfgepfaaMulE
import Derived.Test.YtiiihhohfgepfaaExpS
import Derived.Test.YtiiihhohfgepfaaPrdC
import Derived.Test.YtiiihhohfgepfaaGcdC
namespace Go.Proofs.Ytiiihhohfgepfaa
open Go.RowKit

set_option maxRecDepth 100000 in
set_option maxHeartbeats 1000000 in
theorem iMul_bs {ax ay am : Option Addr} {nx cx ny cy nm cm X Y M : Nat} {w : World} (hnx : 1 < M → nx ≤ nb M) (hny : 1 < M → ny ≤ nb M) (hnm : nm ≤ 4000) (hx : Bs w ax nx cx X) (hy : Bs w ay ny cy Y) (hm : Bs w am nm cm M) :
    Calls Try.prog 42 #[.slice ax nx cx, .slice ay ny cy, .slice am nm cm] w (RetOpt w (optN (1 < M ∧ X < M ∧ Y < M) M (X * Y % M))) := by
  by_cases h : 1 < M ∧ X < M ∧ Y < M
  · rw [optN_yes h]
    obtain ⟨h1, h2, h3⟩ := h
    replace hnx := hnx h1
    replace hny := hny h1
    go_enter Try.func42, Try.ntmps42
    go_wp2_with fail
    with_reducible refine (iBoth_yes hnx hny (by omega) hx hy hm h1 h2 h3).mono ?_
    rintro e w1 ⟨p, b, c, p2, b2, c2, mp, s, rfl, hx1, hy1, hmod, hsp, hsb, hsp2, hsb2, hne, hws, hu1⟩
    have k1 := Lib.hid (natMul_any hx1 hy1 hmod h2 h3 hsp hsb)
    go_wp2_with fail
    with_reducible refine k1.out.mono ?_
    rintro e w2 ⟨rfl, b9, c9, hx2, hb9, huS⟩
    have hu2 : Upd0 w w2 := hu1.then huS (fun i hi h => by omega)
    have hmod2 := hmod.keep huS (fun k hk h => by omega)
    have HV : X * Y % M < M := Nat.mod_lt _ (by omega)
    have hnbm : nb M ≤ 4000 := Nat.le_trans hm.nb hnm
    go_wp2_with fail
    with_reducible refine (bytes_any _ _ _ (nl M) (X * Y % M) s mp M w2 hx2 hmod2 HV).mono ?_
    rintro e w3 ⟨a3, c3, rfl, hb3, hu3⟩
    go_wp2_with fail
    with_reducible refine (clone_bs (by omega) hb3).mono ?_
    rintro e w4 ⟨a4, c4, rfl, hb4, hu4⟩
    go_wp2_with fail
    go_ret2
    exact ⟨a4, c4, rfl, hb4, (hu2.trans hu3).trans hu4⟩
  · rw [optN_no h]
    go_enter Try.func42, Try.ntmps42
    go_wp2_with fail
    with_reducible refine (iBoth_no hnx hny (by omega) hx hy hm h).mono ?_
    rintro e w1 ⟨x, y, z, rfl, hu1⟩
    go_wp2_with fail
    go_ret2
    exact ⟨rfl, hu1⟩
set_option maxRecDepth 100000 in
set_option maxHeartbeats 1000000 in
theorem iSquare_bs {ax am : Option Addr} {nx cx nm cm X M : Nat} {w : World} (hnx : 1 < M → nx ≤ nb M) (hnm : nm ≤ 4000) (hx : Bs w ax nx cx X) (hm : Bs w am nm cm M) :
    Calls Try.prog 40 #[.slice ax nx cx, .slice am nm cm] w (RetOpt w (optN (1 < M ∧ X < M) M (X * X % M))) := by
  by_cases h : 1 < M ∧ X < M
  · rw [optN_yes h]
    obtain ⟨h1, h2⟩ := h
    replace hnx := hnx h1
    go_enter Try.func40, Try.ntmps40
    go_wp2_with fail
    with_reducible refine (iWithin_yes hnx (by omega) hx hm h1 h2).mono ?_
    rintro e w1 ⟨p, b, c, mp, s, rfl, hx1, hmod, hsp, hsb, hws, hu1⟩
    have k1 := Lib.hid (natMul_any hx1 hx1 hmod h2 h2 hsp hsb)
    go_wp2_with fail
    with_reducible refine k1.out.mono ?_
    rintro e w2 ⟨rfl, b9, c9, hx2, hb9, huS⟩
    have hu2 : Upd0 w w2 := hu1.then huS (fun i hi h => by omega)
    have hmod2 := hmod.keep huS (fun k hk h => by omega)
    have HV : X * X % M < M := Nat.mod_lt _ (by omega)
    have hnbm : nb M ≤ 4000 := Nat.le_trans hm.nb hnm
    go_wp2_with fail
    with_reducible refine (bytes_any _ _ _ (nl M) (X * X % M) s mp M w2 hx2 hmod2 HV).mono ?_
    rintro e w3 ⟨a3, c3, rfl, hb3, hu3⟩
    go_wp2_with fail
    with_reducible refine (clone_bs (by omega) hb3).mono ?_
    rintro e w4 ⟨a4, c4, rfl, hb4, hu4⟩
    go_wp2_with fail
    go_ret2
    exact ⟨a4, c4, rfl, hb4, (hu2.trans hu3).trans hu4⟩
  · rw [optN_no h]
    go_enter Try.func40, Try.ntmps40
    go_wp2_with fail
    with_reducible refine (iWithin_no hnx (by omega) hx hm h).mono ?_
    rintro e w1 ⟨x, y, rfl, hu1⟩
    go_wp2_with fail
    go_ret2
    exact ⟨rfl, hu1⟩
theorem iodd_yes {a : Option Addr} {n c N : Nat} {w : World} (hn : n ≤ 100000) (h : Bs w a n c N) (h0 : N % 2 = 1) : Calls Try.prog 64 #[.slice a n c] w fun e w' => e = .returned (.bool true) ∧ Upd0 w w' :=
  (ioddT_bs (by omega) h).mono fun _ _ ⟨h1, h2⟩ => ⟨by rw [h1, decide_eq_true h0], by rw [h2]; exact .refl _ _⟩
theorem iodd_no {a : Option Addr} {n c N : Nat} {w : World} (hn : n ≤ 100000) (h : Bs w a n c N) (h0 : ¬ N % 2 = 1) : Calls Try.prog 64 #[.slice a n c] w fun e w' => e = .returned (.bool false) ∧ Upd0 w w' :=
  (ioddT_bs (by omega) h).mono fun _ _ ⟨h1, h2⟩ => ⟨by rw [h1, decide_eq_false h0], by rw [h2]; exact .refl _ _⟩
end Go.Proofs.Ytiiihhohfgepfaa
