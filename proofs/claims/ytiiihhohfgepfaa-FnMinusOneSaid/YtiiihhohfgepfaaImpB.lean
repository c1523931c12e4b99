/-
  Contracts: impl.SubOne, IsMinusOne, SetOverflowing, Inverse.
-/
import Derived.Test.YtiiihhohfgepfaaMulI
namespace Go.Proofs.Ytiiihhohfgepfaa
open Go.RowKit

set_option maxRecDepth 100000 in
set_option maxHeartbeats 1000000 in
theorem iSubOne_bs {ax am : Option Addr} {nx cx nm cm X M : Nat} {w : World} (hnx : 1 < M → nx ≤ nb M) (hnm : nm ≤ 4000) (hx : Bs w ax nx cx X) (hm : Bs w am nm cm M) :
    Calls Try.prog 28 #[.slice ax nx cx, .slice am nm cm] w (RetOpt w (optN (1 < M ∧ X < M) M ((X + M - 1) % M))) := by
  by_cases h : 1 < M ∧ X < M
  · rw [optN_yes h]
    obtain ⟨h1, h2⟩ := h
    replace hnx := hnx h1
    go_enter Try.func28, Try.ntmps28
    go_wp2_with fail
    with_reducible refine (iWithin_yes hnx (by omega) hx hm h1 h2).mono ?_
    rintro e w1 ⟨p, b, c, mp, s, rfl, hx1, hmod, hsp, hsb, hws, hu1⟩
    have hlt := hmod.lt
    have k1 := subOne_any hx1 hmod hsp hsb
    rw [mdN_mod h2 (by omega)] at k1
    replace k1 := Lib.hid k1
    go_wp2_with fail
    with_reducible refine k1.out.mono ?_
    rintro e w2 ⟨rfl, hx2, huS⟩
    have hu2 : Upd0 w w2 := hu1.then huS (fun i hi h => by omega)
    have hmod2 := hmod.keep huS (fun k hk h => by omega)
    have HV : (X + M - 1) % M < M := Nat.mod_lt _ (by omega)
    have hnbm : nb M ≤ 4000 := Nat.le_trans hm.nb hnm
    go_wp2_with fail
    with_reducible refine (bytes_any _ _ _ (nl M) ((X + M - 1) % M) s mp M w2 hx2 hmod2 HV).mono ?_
    rintro e w3 ⟨a3, c3, rfl, hb3, hu3⟩
    go_wp2_with fail
    with_reducible refine (clone_bs (by omega) hb3).mono ?_
    rintro e w4 ⟨a4, c4, rfl, hb4, hu4⟩
    go_wp2_with fail
    go_ret2
    exact ⟨a4, c4, rfl, hb4, (hu2.trans hu3).trans hu4⟩
  · rw [optN_no h]
    go_enter Try.func28, Try.ntmps28
    go_wp2_with fail
    with_reducible refine (iWithin_no hnx (by omega) hx hm h).mono ?_
    rintro e w1 ⟨x, y, rfl, hu1⟩
    go_wp2_with fail
    go_ret2
    exact ⟨rfl, hu1⟩
set_option maxRecDepth 100000 in
set_option maxHeartbeats 1000000 in
theorem iIsMinusOne_bs {ax am : Option Addr} {nx cx nm cm X M : Nat} {w : World} (hnx : 1 < M → nx ≤ nb M) (hnm : nm ≤ 4000) (hx : Bs w ax nx cx X) (hm : Bs w am nm cm M) :
    Calls Try.prog 29 #[.slice ax nx cx, .slice am nm cm] w (RetInt w (optI (1 < M ∧ X < M) (eqN (X + 1) M))) := by
  by_cases h : 1 < M ∧ X < M
  · rw [optI_yes h]
    obtain ⟨h1, h2⟩ := h
    replace hnx := hnx h1
    obtain ⟨v, HV⟩ : ∃ v, Hid (v = eqN (X + 1) M) := ⟨_, rfl⟩
    have hv : v ≤ 1 := by rw [HV.out]; exact eqN_le _ _
    rw [← HV.out]
    go_enter Try.func29, Try.ntmps29
    go_wp2_with fail
    with_reducible refine (iWithin_yes hnx (by omega) hx hm h1 h2).mono ?_
    rintro e w1 ⟨p, b, c, mp, s, rfl, hx1, hmod, hsp, hsb, hws, hu1⟩
    have k1 := isMinusOne_any hx1 hmod
    rw [← HV.out] at k1
    replace k1 := Lib.hid k1
    go_wp2_with fail
    with_reducible refine k1.out.mono ?_
    rintro e w2 ⟨rfl, hu2⟩
    go_wp2_with fail
    go_ret2
    exact ⟨rfl, hu1.trans hu2⟩
  · rw [optI_no h]
    go_enter Try.func29, Try.ntmps29
    go_wp2_with fail
    with_reducible refine (iWithin_no hnx (by omega) hx hm h).mono ?_
    rintro e w1 ⟨x, y, rfl, hu1⟩
    go_wp2_with fail
    go_ret2
    exact ⟨rfl, hu1⟩
/-- The bits of the highest limbs tell which number has more. -/
theorem top_cmp {n X M : Nat} (hn : nl M = n) (h0 : 0 < n) (hX : X < W64 ^ n) : blen (dg W64 M (n - 1)) < blen (dg W64 X (n - 1)) ↔ blen M < blen X := by
  obtain ⟨j, rfl⟩ : ∃ j, n = j + 1 := ⟨n - 1, by omega⟩
  rw [Nat.add_sub_cancel]
  have hM : M < W64 ^ (j + 1) := by rw [← hn]; exact lt_pow_nl M
  have ht : dg W64 M j ≠ 0 := fun h => by
    have := (nl_le_iff j M).2 (lt_of_no_top hM h)
    omega
  have e1 := blen_topW hM ht
  have hp := blen_pos ht
  by_cases hz : dg W64 X j = 0
  · have h1 : blen X ≤ 64 * j := by rw [blen_le_iff, ← powW]; exact lt_of_no_top hX hz
    rw [hz, blen_zero]; omega
  · have e2 := blen_topW hX hz
    omega
theorem lt_two_of_blen {X M : Nat} (h0 : 0 < M) (h : blen X ≤ blen M) : X < 2 * M := by
  have h1 := (blen_le_iff (blen M) X).1 h
  have hp := blen_pos (n := M) (by omega)
  have h2 := two_pow_le_of_blen (n := M) (k := blen M - 1) (by omega)
  obtain ⟨j, hj⟩ : ∃ j, blen M = j + 1 := ⟨blen M - 1, by omega⟩
  rw [hj] at h1 h2
  rw [Nat.add_sub_cancel] at h2
  rw [Nat.pow_succ] at h1
  omega
theorem msN_small {n X M : Nat} (hM : M < W64 ^ n) (hX : X < W64 ^ n) (h : X < 2 * M) : msN n 0 X M = X % M := by
  have h1 := msN_eq (n := n) (T := X) (M := M) hM (by omega)
  rw [Nat.div_eq_of_lt hX, Nat.mod_eq_of_lt hX] at h1
  rw [h1, redN_mod h]
theorem maybeSub_zero (p b c n X mp q b' c' M : Nat) (w : World) (hx : NatAt w p b c n X) (hm : MNat w mp q b' c' n M) :
    Calls Try.prog 72 #[.pointer (some ⟨p, 0, none⟩), .int .u64 0, .pointer (some ⟨mp, 0, none⟩)] w fun e w' => e = .returned (.tuple #[]) ∧ NatAt w' p b c n (msN n 0 X M) ∧ Upd (fun k => k = b) w w' := maybeSub_any p b c n X 0 mp q b' c' M w hx hm (by omega)
end Go.Proofs.Ytiiihhohfgepfaa
