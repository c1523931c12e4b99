/-
  Contracts of the reference: IsOne, IsMinusOne, SetOverflowing, Exp, ExpShort, inverse, Inverse.
-/
import Derived.Test.YtiiihhohfgepfaaSpecK
namespace Go.Proofs.Ytiiihhohfgepfaa
open Go.RowKit

set_option maxRecDepth 100000 in
set_option maxHeartbeats 1000000 in
theorem sIsMinusOne_bs {ax am : Option Addr} {nx cx nm cm X M : Nat} {w : World} (hnx : nx ≤ 4000) (hnm : nm ≤ 4000) (hx : Bs w ax nx cx X) (hm : Bs w am nm cm M) :
    Calls Try.prog 30 #[.slice ax nx cx, .slice am nm cm] w (RetInt w (optI (1 < M ∧ X < M) (eqN (X + 1) M))) := by
  have hdx := hx.nd
  have hdm := hm.nd
  by_cases h : 1 < M ∧ X < M
  · obtain ⟨h1, h2⟩ := h
    rw [optI_yes ⟨h1, h2⟩]
    go_enter Try.func30, Try.ntmps30
    go_wp2_with fail
    with_reducible refine (sBoth_yes (by omega) (by omega) (by omega) hx (Bs.emp _) hm h1 h2 (by omega)).mono ?_
    rintro e w1 ⟨a1, c1, a2, c2, a3, c3, rfl, hsx, hsy, hsm, hu1⟩
    have hb := nd_add X 1
    have hn1 : nd 1 ≤ 1 := Nat.le_refl _
    go_wp2_with fail
    with_reducible refine (small_one w1).mono ?_
    rintro e w2 ⟨a4, c4, rfl, hs4, hu2⟩
    go_wp2_with fail
    with_reducible refine (sum_any a1 a4 c1 c4 X 1 w2 (by omega) (by omega) (hsx.keep hu2) hs4).mono ?_
    rintro e w3 ⟨a5, c5, rfl, hs5, hu3⟩
    go_wp2_with fail
    with_reducible refine (sSame_any a5 a3 c5 c3 (X + 1) M w3 (by omega) (by omega) hs5 ((hsm.keep hu2).keep hu3)).mono ?_
    rintro e w4 ⟨rfl, hu4⟩
    go_wp2_with fail
    go_ret2
    exact ⟨rfl, ((hu1.trans hu2).trans hu3).trans hu4⟩
  · rw [optI_no h]
    have h' : ¬ (1 < M ∧ X < M ∧ 0 < M) := by omega
    go_enter Try.func30, Try.ntmps30
    go_wp2_with fail
    with_reducible refine (sBoth_no (by omega) (by omega) (by omega) hx (Bs.emp _) hm h').mono ?_
    rintro e w1 ⟨x, y, z, rfl, hu1⟩
    go_wp2_with fail
    go_ret2
    exact ⟨rfl, hu1⟩
/-- power, with bytes as a number. -/
theorem power_bs {ax am ae : Option Addr} {cx cm X M ne ce E : Nat} {w : World} (hX : nd X ≤ 4000) (hM : nd M ≤ 4000) (h0 : 0 < M) (hne : ne ≤ 100000) (hsx : Sl .i64 w ax (nd X) cx (dg 65536 X)) (hsm : Sl .i64 w am (nd M) cm (dg 65536 M)) (he : Bs w ae ne ce E) :
    Calls Try.prog 67 #[.slice ax (nd X) cx, .slice ae ne ce, .slice am (nd M) cm] w (RetNum w (X ^ E % M)) := by
  obtain ⟨f, hf, hs, rfl⟩ := he
  exact power_any ax am ae cx cm X M ne ce f w hX hM h0 hne hf hsx hsm hs
set_option maxRecDepth 100000 in
set_option maxHeartbeats 1000000 in
theorem sExp_bs {ax ae am : Option Addr} {nx cx ne ce nm cm X E M : Nat} {w : World} (hnx : nx ≤ 4000) (hne : ne ≤ 100000) (hnm : nm ≤ 4000) (hx : Bs w ax nx cx X) (he : Bs w ae ne ce E) (hm : Bs w am nm cm M) :
    Calls Try.prog 39 #[.slice ax nx cx, .slice ae ne ce, .slice am nm cm] w (RetOpt w (optN (1 < M ∧ X < M ∧ M % 2 = 1) M (X ^ E % M))) := by
  have hdx := hx.nd
  have hdm := hm.nd
  by_cases h : 1 < M ∧ X < M
  · obtain ⟨h1, h2⟩ := h
    by_cases ho : M % 2 = 1
    · rw [optN_yes ⟨h1, h2, ho⟩]
      have HO : Hid (decide (M % 2 = 0) = false) := decide_eq_false (by omega)
      have HE : Hid (X ^ E % M % M = X ^ E % M) := Nat.mod_mod _ _
      have HRn : Hid (nd (X ^ E % M) ≤ 4000) := Nat.le_trans (nd_mono (Nat.le_of_lt (Nat.mod_lt _ (by omega)))) (by omega)
      go_enter Try.func39, Try.ntmps39
      go_wp2_with fail
      with_reducible refine (sBoth_yes (by omega) (by omega) (by omega) hx (Bs.emp _) hm h1 h2 (by omega)).mono ?_
      rintro e w1 ⟨a1, c1, a2, c2, a3, c3, rfl, hsx, hsy, hsm, hu1⟩
      have ke := even_any a3 c3 M w1 (by omega) hsm.rd
      rw [HO.out] at ke
      replace ke := Lib.hid ke
      go_wp2_with fail
      with_reducible refine ke.out.mono ?_
      rintro e w' ⟨rfl, rfl⟩
      go_wp2_with fail
      with_reducible refine (power_bs (by omega) (by omega) (by omega) hne hsx hsm (he.keep hu1)).mono ?_
      rintro e w2 ⟨a4, c4, rfl, hs4, hu2⟩
      have k1 := sTold_any (by have := HRn.out; omega) (by omega) (by omega) hs4 (hsm.keep hu2)
      rw [HE.out] at k1
      replace k1 := Lib.hid k1
      go_wp2_with fail
      with_reducible refine k1.out.mono ?_
      rintro e w9 ⟨a9, c9, rfl, hs9, hu9⟩
      go_wp2_with fail
      go_ret2
      exact ⟨a9, c9, rfl, hs9, (hu1.trans hu2).trans hu9⟩
    · rw [optN_no (fun h => ho h.2.2)]
      have HO : Hid (decide (M % 2 = 0) = true) := decide_eq_true (by omega)
      go_enter Try.func39, Try.ntmps39
      go_wp2_with fail
      with_reducible refine (sBoth_yes (by omega) (by omega) (by omega) hx (Bs.emp _) hm h1 h2 (by omega)).mono ?_
      rintro e w1 ⟨a1, c1, a2, c2, a3, c3, rfl, hsx, hsy, hsm, hu1⟩
      have ke := even_any a3 c3 M w1 (by omega) hsm.rd
      rw [HO.out] at ke
      replace ke := Lib.hid ke
      go_wp2_with fail
      with_reducible refine ke.out.mono ?_
      rintro e w' ⟨rfl, rfl⟩
      go_wp2_with fail
      go_ret2
      exact ⟨rfl, hu1⟩
  · rw [optN_no (fun h' => h ⟨h'.1, h'.2.1⟩)]
    have h' : ¬ (1 < M ∧ X < M ∧ 0 < M) := by omega
    go_enter Try.func39, Try.ntmps39
    go_wp2_with fail
    with_reducible refine (sBoth_no (by omega) (by omega) (by omega) hx (Bs.emp _) hm h').mono ?_
    rintro e w1 ⟨x, y, z, rfl, hu1⟩
    go_wp2_with fail
    go_ret2
    exact ⟨rfl, hu1⟩
/-- The inverse of a modulo m exists where they have no common divisor. -/
theorem EuI.inv {a m : Nat} : ∀ s r x y, EuI a m r s x y → Nat.gcd a m = 1 → ∃ X, IsInv a m X := by
  intro s
  induction s using Nat.strongRecOn with
  | _ s ih =>
    intro r x y h hg
    rcases Nat.eq_zero_or_pos s with h0 | h0
    · subst h0
      have := h.done
      exact ⟨x, this.2 (by rw [this.1, hg])⟩
    · exact ih (r % s) (Nat.mod_lt _ h0) _ _ _ (h.next h0) hg
open Classical in
/-- The inverse of a modulo m. -/
noncomputable def invN (a m : Nat) : Nat := if h : ∃ X, IsInv a m X then Classical.choose h else 0
theorem IsInv.invN {a m X : Nat} (h : IsInv a m X) : X = Proofs.Ytiiihhohfgepfaa.invN a m := by
  have hh : ∃ X, IsInv a m X := ⟨X, h⟩
  unfold Proofs.Ytiiihhohfgepfaa.invN
  rw [dif_pos hh]
  exact h.unique (Classical.choose_spec hh)
theorem invN_is {a m : Nat} (hm : 1 < m) (ha : a < m) (hg : Nat.gcd a m = 1) : IsInv a m (invN a m) := by
  obtain ⟨X, h⟩ := EuI.inv _ _ _ _ (EuI.start hm ha) hg
  rw [← h.invN]
  exact h
end Go.Proofs.Ytiiihhohfgepfaa
