/-
  Contracts of the reference's exported functions.
-/
import Derived.Test.YtmbghmjllipbhaaSpecH
namespace Go.Proofs.Ytmbghmjllipbhaa
open Go.RowKit

theorem nd_add (A B : Nat) : nd (A + B) ≤ max (nd A) (nd B) + 1 := by
  rw [nd_le_iff, Nat.pow_succ]
  have h1 := (nd_le_iff (max (nd A) (nd B)) A).1 (by omega)
  have h2 := (nd_le_iff (max (nd A) (nd B)) B).1 (by omega)
  have hp := B_pos (max (nd A) (nd B))
  omega
theorem nd_mul (A B : Nat) : nd (A * B) ≤ nd A + nd B := by
  rw [nd_le_iff, Nat.pow_add]
  exact Nat.mul_lt_mul'' (lt_pow_nd A) (lt_pow_nd B)

set_option maxRecDepth 100000 in
set_option maxHeartbeats 1000000 in
theorem sAdd_bs {ax ay am : Option Addr} {nx cx ny cy nm cm X Y M : Nat} {w : World} (hnx : nx ≤ 4000) (hny : ny ≤ 4000) (hnm : nm ≤ 4000) (hx : Bs w ax nx cx X) (hy : Bs w ay ny cy Y) (hm : Bs w am nm cm M) :
    Calls Try.prog 54 #[.slice ax nx cx, .slice ay ny cy, .slice am nm cm] w (RetOpt w (optN (1 < M ∧ X < M ∧ Y < M) M ((X + Y) % M))) := by
  have hdx := hx.nd
  have hdy := hy.nd
  have hdm := hm.nd
  by_cases h : 1 < M ∧ X < M ∧ Y < M
  · obtain ⟨h1, h2, h3⟩ := h
    rw [optN_yes ⟨h1, h2, h3⟩]
    go_enter Try.func54, Try.ntmps54
    go_wp2_with fail
    with_reducible refine (sBoth_yes (by omega) (by omega) (by omega) hx hy hm h1 h2 h3).mono ?_
    rintro e w1 ⟨a1, c1, a2, c2, a3, c3, rfl, hsx, hsy, hsm, hu1⟩
    have hb := nd_add X Y
    go_wp2_with fail
    with_reducible refine (sum_any a1 a2 c1 c2 X Y w1 (by omega) (by omega) hsx hsy).mono ?_
    rintro e w2 ⟨a4, c4, rfl, hs4, hu2⟩
    have ut := hu1.trans hu2
    go_wp2_with fail
    with_reducible refine (sTold_any (by omega) (by omega) (by omega) hs4 (hsm.keep hu2)).mono ?_
    rintro e w9 ⟨a9, c9, rfl, hs9, hu9⟩
    go_wp2_with fail
    go_ret2
    exact ⟨a9, c9, rfl, hs9, ut.trans hu9⟩
  · rw [optN_no h]
    go_enter Try.func54, Try.ntmps54
    go_wp2_with fail
    with_reducible refine (sBoth_no (by omega) (by omega) (by omega) hx hy hm h).mono ?_
    rintro e w1 ⟨x, y, z, rfl, hu1⟩
    go_wp2_with fail
    go_ret2
    exact ⟨rfl, hu1⟩
set_option maxRecDepth 100000 in
set_option maxHeartbeats 1000000 in
theorem sSub_bs {ax ay am : Option Addr} {nx cx ny cy nm cm X Y M : Nat} {w : World} (hnx : nx ≤ 4000) (hny : ny ≤ 4000) (hnm : nm ≤ 4000) (hx : Bs w ax nx cx X) (hy : Bs w ay ny cy Y) (hm : Bs w am nm cm M) :
    Calls Try.prog 58 #[.slice ax nx cx, .slice ay ny cy, .slice am nm cm] w (RetOpt w (optN (1 < M ∧ X < M ∧ Y < M) M ((X + M - Y) % M))) := by
  have hdx := hx.nd
  have hdy := hy.nd
  have hdm := hm.nd
  by_cases h : 1 < M ∧ X < M ∧ Y < M
  · obtain ⟨h1, h2, h3⟩ := h
    rw [optN_yes ⟨h1, h2, h3⟩]
    go_enter Try.func58, Try.ntmps58
    go_wp2_with fail
    with_reducible refine (sBoth_yes (by omega) (by omega) (by omega) hx hy hm h1 h2 h3).mono ?_
    rintro e w1 ⟨a1, c1, a2, c2, a3, c3, rfl, hsx, hsy, hsm, hu1⟩
    have hb := nd_add X M
    have hb2 : nd (X + M - Y) ≤ nd (X + M) := nd_mono (Nat.sub_le _ _)
    go_wp2_with fail
    with_reducible refine (sum_any a1 a3 c1 c3 X M w1 (by omega) (by omega) hsx hsm).mono ?_
    rintro e w2 ⟨a4, c4, rfl, hs4, hu2⟩
    go_wp2_with fail
    with_reducible refine (difference_any a4 a2 c4 c2 (X + M) Y w2 (by omega) (by omega) (by omega) hs4 (hsy.keep hu2)).mono ?_
    rintro e w3 ⟨a5, c5, rfl, hs5, hu3⟩
    have ut := (hu1.trans hu2).trans hu3
    go_wp2_with fail
    with_reducible refine (sTold_any (by omega) (by omega) (by omega) hs5 ((hsm.keep hu2).keep hu3)).mono ?_
    rintro e w9 ⟨a9, c9, rfl, hs9, hu9⟩
    go_wp2_with fail
    go_ret2
    exact ⟨a9, c9, rfl, hs9, ut.trans hu9⟩
  · rw [optN_no h]
    go_enter Try.func58, Try.ntmps58
    go_wp2_with fail
    with_reducible refine (sBoth_no (by omega) (by omega) (by omega) hx hy hm h).mono ?_
    rintro e w1 ⟨x, y, z, rfl, hu1⟩
    go_wp2_with fail
    go_ret2
    exact ⟨rfl, hu1⟩
set_option maxRecDepth 100000 in
set_option maxHeartbeats 1000000 in
theorem sMul_bs {ax ay am : Option Addr} {nx cx ny cy nm cm X Y M : Nat} {w : World} (hnx : nx ≤ 4000) (hny : ny ≤ 4000) (hnm : nm ≤ 4000) (hx : Bs w ax nx cx X) (hy : Bs w ay ny cy Y) (hm : Bs w am nm cm M) :
    Calls Try.prog 65 #[.slice ax nx cx, .slice ay ny cy, .slice am nm cm] w (RetOpt w (optN (1 < M ∧ X < M ∧ Y < M) M (X * Y % M))) := by
  have hdx := hx.nd
  have hdy := hy.nd
  have hdm := hm.nd
  by_cases h : 1 < M ∧ X < M ∧ Y < M
  · obtain ⟨h1, h2, h3⟩ := h
    rw [optN_yes ⟨h1, h2, h3⟩]
    go_enter Try.func65, Try.ntmps65
    go_wp2_with fail
    with_reducible refine (sBoth_yes (by omega) (by omega) (by omega) hx hy hm h1 h2 h3).mono ?_
    rintro e w1 ⟨a1, c1, a2, c2, a3, c3, rfl, hsx, hsy, hsm, hu1⟩
    have hb := nd_mul X Y
    go_wp2_with fail
    with_reducible refine (product_any a1 a2 c1 c2 X Y w1 (by omega) (by omega) hsx.rd hsy.rd).mono ?_
    rintro e w2 ⟨a4, c4, rfl, hs4, hu2⟩
    have ut := hu1.trans hu2
    go_wp2_with fail
    with_reducible refine (sTold_any (by omega) (by omega) (by omega) hs4 (hsm.keep hu2)).mono ?_
    rintro e w9 ⟨a9, c9, rfl, hs9, hu9⟩
    go_wp2_with fail
    go_ret2
    exact ⟨a9, c9, rfl, hs9, ut.trans hu9⟩
  · rw [optN_no h]
    go_enter Try.func65, Try.ntmps65
    go_wp2_with fail
    with_reducible refine (sBoth_no (by omega) (by omega) (by omega) hx hy hm h).mono ?_
    rintro e w1 ⟨x, y, z, rfl, hu1⟩
    go_wp2_with fail
    go_ret2
    exact ⟨rfl, hu1⟩
set_option maxRecDepth 100000 in
set_option maxHeartbeats 1000000 in
theorem sSetBytes_bs {ax am : Option Addr} {nx cx nm cm X M : Nat} {w : World} (hnx : nx ≤ 4000) (hnm : nm ≤ 4000) (hx : Bs w ax nx cx X) (hm : Bs w am nm cm M) :
    Calls Try.prog 56 #[.slice ax nx cx, .slice am nm cm] w (RetOpt w (optN (1 < M ∧ X < M) M X)) := by
  have hdx := hx.nd
  have hdm := hm.nd
  by_cases h : 1 < M ∧ X < M
  · obtain ⟨h1, h2⟩ := h
    rw [optN_yes ⟨h1, h2⟩]
    have HE := Lib.hid (Nat.mod_eq_of_lt h2)
    go_enter Try.func56, Try.ntmps56
    go_wp2_with fail
    with_reducible refine (sBoth_yes (by omega) (by omega) (by omega) hx (Bs.emp _) hm h1 h2 (by omega)).mono ?_
    rintro e w1 ⟨a1, c1, a2, c2, a3, c3, rfl, hsx, hsy, hsm, hu1⟩
    have k1 := sTold_any (N := X) (M := M) (by omega) (by omega) (by omega) hsx hsm
    rw [HE.out] at k1
    replace k1 := Lib.hid k1
    go_wp2_with fail
    with_reducible refine k1.out.mono ?_
    rintro e w9 ⟨a9, c9, rfl, hs9, hu9⟩
    go_wp2_with fail
    go_ret2
    exact ⟨a9, c9, rfl, hs9, hu1.trans hu9⟩
  · rw [optN_no h]
    have h' : ¬ (1 < M ∧ X < M ∧ 0 < M) := by omega
    go_enter Try.func56, Try.ntmps56
    go_wp2_with fail
    with_reducible refine (sBoth_no (by omega) (by omega) (by omega) hx (Bs.emp _) hm h').mono ?_
    rintro e w1 ⟨x, y, z, rfl, hu1⟩
    go_wp2_with fail
    go_ret2
    exact ⟨rfl, hu1⟩
set_option maxRecDepth 100000 in
set_option maxHeartbeats 1000000 in
theorem sMod_bs {ax am : Option Addr} {nx cx nm cm X M : Nat} {w : World} (hnx : nx ≤ 4000) (hnm : nm ≤ 4000) (hx : Bs w ax nx cx X) (hm : Bs w am nm cm M) :
    Calls Try.prog 60 #[.slice ax nx cx, .slice am nm cm] w (RetOpt w (optN (1 < M) M (X % M))) := by
  have hdx := hx.nd
  have hdm := hm.nd
  by_cases h1 : 1 < M
  · rw [optN_yes h1]
    go_enter Try.func60, Try.ntmps60
    go_wp2_with fail
    with_reducible refine (sModulus_yes (by omega) hm h1).mono ?_
    rintro e w1 ⟨a1, c1, rfl, hsm, hu1⟩
    go_wp2_with fail
    with_reducible refine (read_bs (by omega) (hx.keep hu1)).mono ?_
    rintro e w2 ⟨a2, c2, rfl, hsx, hu2⟩
    go_wp2_with fail
    with_reducible refine (sTold_any (by omega) (by omega) (by omega) hsx (hsm.keep hu2)).mono ?_
    rintro e w9 ⟨a9, c9, rfl, hs9, hu9⟩
    go_wp2_with fail
    go_ret2
    exact ⟨a9, c9, rfl, hs9, (hu1.trans hu2).trans hu9⟩
  · rw [optN_no h1]
    go_enter Try.func60, Try.ntmps60
    go_wp2_with fail
    with_reducible refine (sModulus_no (by omega) hm h1).mono ?_
    rintro e w1 ⟨a1, c1, rfl, hsm, hu1⟩
    go_wp2_with fail
    go_ret2
    exact ⟨rfl, hu1⟩
end Go.Proofs.Ytmbghmjllipbhaa
