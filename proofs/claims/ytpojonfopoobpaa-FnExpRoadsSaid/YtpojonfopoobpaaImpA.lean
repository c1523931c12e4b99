/-
  Contracts: impl.SetBytes, Add, Sub, Double, Cancel, Equal, IsZero, IsOne, IsOdd; Modulus.Nat, impl.ModulusBytes.
-/
import Derived.Test.YtpojonfopoobpaaIn
import Derived.Test.YtpojonfopoobpaaSpecJ
namespace Go.Proofs.Ytpojonfopoobpaa
open Go.RowKit

set_option maxRecDepth 100000 in
set_option maxHeartbeats 1000000 in
theorem iSetBytes_bs {ax am : Option Addr} {nx cx nm cm X M : Nat} {w : World} (hnx : 1 < M → nx ≤ nb M) (hnm : nm ≤ 4000) (hx : Bs w ax nx cx X) (hm : Bs w am nm cm M) :
    Calls Try.prog 37 #[.slice ax nx cx, .slice am nm cm] w (RetOpt w (optN (1 < M ∧ X < M) M (X))) := by
  by_cases h : 1 < M ∧ X < M
  · rw [optN_yes h]
    obtain ⟨h1, h2⟩ := h
    replace hnx := hnx h1
    go_enter Try.func37, Try.ntmps37
    go_wp2_with fail
    with_reducible refine (iWithin_yes hnx (by omega) hx hm h1 h2).mono ?_
    rintro e w1 ⟨p, b, c, mp, s, rfl, hx1, hmod, hsp, hsb, hws, hu1⟩
    have hx2 := hx1
    have hmod2 := hmod
    have hu2 := hu1
    have HV := h2
    obtain ⟨w2, Hw2⟩ : ∃ w2, w2 = w1 := ⟨_, rfl⟩
    subst Hw2
    have hnbm : nb M ≤ 4000 := Nat.le_trans hm.nb hnm
    go_wp2_with fail
    with_reducible refine (bytes_any _ _ _ (nl M) (X) s mp M w2 hx2 hmod2 HV).mono ?_
    rintro e w3 ⟨a3, c3, rfl, hb3, hu3⟩
    go_wp2_with fail
    with_reducible refine (clone_bs (by omega) hb3).mono ?_
    rintro e w4 ⟨a4, c4, rfl, hb4, hu4⟩
    go_wp2_with fail
    go_ret2
    exact ⟨a4, c4, rfl, hb4, (hu2.trans hu3).trans hu4⟩
  · rw [optN_no h]
    go_enter Try.func37, Try.ntmps37
    go_wp2_with fail
    with_reducible refine (iWithin_no hnx (by omega) hx hm h).mono ?_
    rintro e w1 ⟨x, y, rfl, hu1⟩
    go_wp2_with fail
    go_ret2
    exact ⟨rfl, hu1⟩
set_option maxRecDepth 100000 in
set_option maxHeartbeats 1000000 in
theorem iDouble_bs {ax am : Option Addr} {nx cx nm cm X M : Nat} {w : World} (hnx : 1 < M → nx ≤ nb M) (hnm : nm ≤ 4000) (hx : Bs w ax nx cx X) (hm : Bs w am nm cm M) :
    Calls Try.prog 27 #[.slice ax nx cx, .slice am nm cm] w (RetOpt w (optN (1 < M ∧ X < M) M ((X + X) % M))) := by
  by_cases h : 1 < M ∧ X < M
  · rw [optN_yes h]
    obtain ⟨h1, h2⟩ := h
    replace hnx := hnx h1
    go_enter Try.func27, Try.ntmps27
    go_wp2_with fail
    with_reducible refine (iWithin_yes hnx (by omega) hx hm h1 h2).mono ?_
    rintro e w1 ⟨p, b, c, mp, s, rfl, hx1, hmod, hsp, hsb, hws, hu1⟩
    obtain ⟨q, bm, cm, hmn, hq, hbm⟩ := hmod.ex
    have hmp := hmod.hp
    have hlt := hmod.lt
    have k1 := natAdd_any p b c (nl M) X p b c X mp q bm cm M w1 hx1 hx1 hmn (fun _ => rfl) (by omega) (by omega) (by omega) (by omega)
    rw [redN_mod (by omega)] at k1
    replace k1 := Lib.hid k1
    go_wp2_with fail
    with_reducible refine k1.out.mono ?_
    rintro e w2 ⟨rfl, hx2, huS⟩
    have hu2 : Upd0 w w2 := hu1.then huS (fun i hi h => by omega)
    have hmod2 := hmod.keep huS (fun k hk h => by omega)
    have HV : (X + X) % M < M := Nat.mod_lt _ (by omega)
    have hnbm : nb M ≤ 4000 := Nat.le_trans hm.nb hnm
    go_wp2_with fail
    with_reducible refine (bytes_any _ _ _ (nl M) ((X + X) % M) s mp M w2 hx2 hmod2 HV).mono ?_
    rintro e w3 ⟨a3, c3, rfl, hb3, hu3⟩
    go_wp2_with fail
    with_reducible refine (clone_bs (by omega) hb3).mono ?_
    rintro e w4 ⟨a4, c4, rfl, hb4, hu4⟩
    go_wp2_with fail
    go_ret2
    exact ⟨a4, c4, rfl, hb4, (hu2.trans hu3).trans hu4⟩
  · rw [optN_no h]
    go_enter Try.func27, Try.ntmps27
    go_wp2_with fail
    with_reducible refine (iWithin_no hnx (by omega) hx hm h).mono ?_
    rintro e w1 ⟨x, y, rfl, hu1⟩
    go_wp2_with fail
    go_ret2
    exact ⟨rfl, hu1⟩
set_option maxRecDepth 100000 in
set_option maxHeartbeats 1000000 in
theorem iAdd_bs {ax ay am : Option Addr} {nx cx ny cy nm cm X Y M : Nat} {w : World} (hnx : 1 < M → nx ≤ nb M) (hny : 1 < M → ny ≤ nb M) (hnm : nm ≤ 4000) (hx : Bs w ax nx cx X) (hy : Bs w ay ny cy Y) (hm : Bs w am nm cm M) :
    Calls Try.prog 49 #[.slice ax nx cx, .slice ay ny cy, .slice am nm cm] w (RetOpt w (optN (1 < M ∧ X < M ∧ Y < M) M ((X + Y) % M))) := by
  by_cases h : 1 < M ∧ X < M ∧ Y < M
  · rw [optN_yes h]
    obtain ⟨h1, h2, h3⟩ := h
    replace hnx := hnx h1
    replace hny := hny h1
    go_enter Try.func49, Try.ntmps49
    go_wp2_with fail
    with_reducible refine (iBoth_yes hnx hny (by omega) hx hy hm h1 h2 h3).mono ?_
    rintro e w1 ⟨p, b, c, p2, b2, c2, mp, s, rfl, hx1, hy1, hmod, hsp, hsb, hsp2, hsb2, hne, hws, hu1⟩
    obtain ⟨q, bm, cm, hmn, hq, hbm⟩ := hmod.ex
    have hmp := hmod.hp
    have hlt := hmod.lt
    have k1 := natAdd_any p b c (nl M) X p2 b2 c2 Y mp q bm cm M w1 hx1 hy1 hmn (fun h => absurd h hne.2.2.2) (by omega) (by omega) (by omega) (by omega)
    rw [redN_mod (by omega)] at k1
    replace k1 := Lib.hid k1
    go_wp2_with fail
    with_reducible refine k1.out.mono ?_
    rintro e w2 ⟨rfl, hx2, huS⟩
    have hu2 : Upd0 w w2 := hu1.then huS (fun i hi h => by omega)
    have hmod2 := hmod.keep huS (fun k hk h => by omega)
    have HV : (X + Y) % M < M := Nat.mod_lt _ (by omega)
    have hnbm : nb M ≤ 4000 := Nat.le_trans hm.nb hnm
    go_wp2_with fail
    with_reducible refine (bytes_any _ _ _ (nl M) ((X + Y) % M) s mp M w2 hx2 hmod2 HV).mono ?_
    rintro e w3 ⟨a3, c3, rfl, hb3, hu3⟩
    go_wp2_with fail
    with_reducible refine (clone_bs (by omega) hb3).mono ?_
    rintro e w4 ⟨a4, c4, rfl, hb4, hu4⟩
    go_wp2_with fail
    go_ret2
    exact ⟨a4, c4, rfl, hb4, (hu2.trans hu3).trans hu4⟩
  · rw [optN_no h]
    go_enter Try.func49, Try.ntmps49
    go_wp2_with fail
    with_reducible refine (iBoth_no hnx hny (by omega) hx hy hm h).mono ?_
    rintro e w1 ⟨x, y, z, rfl, hu1⟩
    go_wp2_with fail
    go_ret2
    exact ⟨rfl, hu1⟩
set_option maxRecDepth 100000 in
set_option maxHeartbeats 1000000 in
theorem iIsOne_bs {ax am : Option Addr} {nx cx nm cm X M : Nat} {w : World} (hnx : 1 < M → nx ≤ nb M) (hnm : nm ≤ 4000) (hx : Bs w ax nx cx X) (hm : Bs w am nm cm M) :
    Calls Try.prog 35 #[.slice ax nx cx, .slice am nm cm] w (RetInt w (optI (1 < M ∧ X < M) (eqN X 1))) := by
  by_cases h : 1 < M ∧ X < M
  · rw [optI_yes h]
    obtain ⟨h1, h2⟩ := h
    replace hnx := hnx h1
    obtain ⟨v, HV⟩ : ∃ v, Hid (v = eqN X 1) := ⟨_, rfl⟩
    have hv : v ≤ 1 := by rw [HV.out]; exact eqN_le _ _
    rw [← HV.out]
    go_enter Try.func35, Try.ntmps35
    go_wp2_with fail
    with_reducible refine (iWithin_yes hnx (by omega) hx hm h1 h2).mono ?_
    rintro e w1 ⟨p, b, c, mp, s, rfl, hx1, hmod, hsp, hsb, hws, hu1⟩
    have k1 := isOne_any p b c (nl M) X w1 hx1
    rw [← HV.out] at k1
    replace k1 := Lib.hid k1
    go_wp2_with fail
    with_reducible refine k1.out.mono ?_
    rintro e w2 ⟨rfl, rfl⟩
    go_wp2_with fail
    go_ret2
    exact ⟨rfl, hu1⟩
  · rw [optI_no h]
    go_enter Try.func35, Try.ntmps35
    go_wp2_with fail
    with_reducible refine (iWithin_no hnx (by omega) hx hm h).mono ?_
    rintro e w1 ⟨x, y, rfl, hu1⟩
    go_wp2_with fail
    go_ret2
    exact ⟨rfl, hu1⟩
set_option maxRecDepth 100000 in
set_option maxHeartbeats 1000000 in
/-- A modulus as a new number. -/
theorem modNat_any {s mp n M : Nat} {w : World} (hm : ModAt w s mp n M) :
    Calls Try.prog 66 #[.pointer (some ⟨mp, 0, none⟩)] w (RetFresh w n M) := by
  obtain ⟨q, bm, cm, hmn, hq, hbm⟩ := hm.ex
  have hms := hm.hs
  have hmp := hm.hp
  go_enter Try.func66, Try.ntmps66
  go_wp2_with fail
  with_reducible refine (newNat_any w).mono ?_
  rintro e w1 ⟨rfl, hx1, hu1, hz1⟩
  replace hz1 : w.heap.size + 2 ≤ w1.heap.size := by omega
  have hmn1 := hmn.keep0 hu1
  have hc := hmn1.hm
  have k1 := Lib.hid (set_any (w.heap.size + 1) w.heap.size 32 0 0 q bm cm n M w1 hx1 hmn1.nat (by omega) (by omega) (by omega) (by omega))
  go_wp2_with fail
  with_reducible refine k1.out.mono ?_
  rintro e w2 ⟨rfl, b2, c2, hx2, hb2, hu2⟩
  go_wp2_with fail
  go_ret
  exact ⟨_, b2, c2, rfl, hx2, by omega, by rcases hb2 with h | h <;> omega, hu1.then hu2 (fun i hi h => by omega)⟩
end Go.Proofs.Ytpojonfopoobpaa
