/-
  Contracts of the reference: same, Equal, IsZero, IsOne, IsOdd, ModulusBytes, SetOverflowing.
-/
import Derived.Test.YtmbghmjllipbhaaSpecI
import Derived.Test.YtmbghmjllipbhaaNatF
namespace Go.Proofs.Ytmbghmjllipbhaa
open Go.RowKit

/-- A number where c holds. -/
def optI (c : Prop) [Decidable c] (N : Nat) : Option Nat := if c then some N else none
theorem optI_yes {c : Prop} [Decidable c] (h : c) (N : Nat) : optI c N = some N := if_pos h
theorem optI_no {c : Prop} [Decidable c] (h : ¬ c) (N : Nat) : optI c N = none := if_neg h

set_option maxRecDepth 100000 in
set_option maxHeartbeats 1000000 in
theorem sSame_any (a a' : Option Addr) (c c' A B : Nat) (w : World) (hA : nd A ≤ 10000) (hB : nd B ≤ 10000) (hsa : Sl .i64 w a (nd A) c (dg 65536 A)) (hsb : Sl .i64 w a' (nd B) c' (dg 65536 B)) :
    Calls Try.prog 100 #[.slice a (nd A) c, .slice a' (nd B) c'] w fun e w' => e = .returned (.int .i64 (eqN A B : Nat)) ∧ Upd0 w w' := by
  have k1 := less_any a a' c c' A B w (by omega) (by omega) hsa.rd hsb.rd
  by_cases h1 : A < B
  · rw [decide_eq_true h1] at k1
    have HE : Hid (eqN A B = 0) := if_neg (by omega)
    rw [HE.out]
    replace k1 := Lib.hid k1
    clear hsa hsb h1
    go_enter Try.func100, Try.ntmps100
    go_wp2_with fail
    with_reducible refine k1.out.mono ?_
    rintro e w1 ⟨rfl, hu1⟩
    replace hu1 := drewUpd hu1
    go_wp2_with fail
    go_ret
    exact ⟨rfl, hu1⟩
  · rw [decide_eq_false h1] at k1
    replace k1 := Lib.hid k1
    by_cases h2 : B < A
    · have HE : Hid (eqN A B = 0) := if_neg (by omega)
      rw [HE.out]
      have HD := Lib.hid (decide_eq_true h2)
      clear h1 h2
      go_enter Try.func100, Try.ntmps100
      go_wp2_with fail
      with_reducible refine k1.out.mono ?_
      rintro e w1 ⟨rfl, hu1⟩
      replace hu1 := drewUpd hu1
      have k2 := less_any a' a c' c B A w1 (by omega) (by omega) (hsb.keep hu1).rd (hsa.keep hu1).rd
      rw [HD.out] at k2
      replace k2 := Lib.hid k2
      go_wp2_with fail
      with_reducible refine k2.out.mono ?_
      rintro e w2 ⟨rfl, hu2⟩
      replace hu2 := drewUpd hu2
      go_wp2_with fail
      go_ret
      exact ⟨rfl, hu1.trans hu2⟩
    · have HE : Hid (eqN A B = 1) := if_pos (by omega)
      rw [HE.out]
      have HD := Lib.hid (decide_eq_false h2)
      clear h1 h2
      go_enter Try.func100, Try.ntmps100
      go_wp2_with fail
      with_reducible refine k1.out.mono ?_
      rintro e w1 ⟨rfl, hu1⟩
      replace hu1 := drewUpd hu1
      have k2 := less_any a' a c' c B A w1 (by omega) (by omega) (hsb.keep hu1).rd (hsa.keep hu1).rd
      rw [HD.out] at k2
      replace k2 := Lib.hid k2
      go_wp2_with fail
      with_reducible refine k2.out.mono ?_
      rintro e w2 ⟨rfl, hu2⟩
      replace hu2 := drewUpd hu2
      go_wp2_with fail
      go_ret
      exact ⟨rfl, hu1.trans hu2⟩
set_option maxRecDepth 100000 in
set_option maxHeartbeats 1000000 in
theorem sEqual_bs {ax ay am : Option Addr} {nx cx ny cy nm cm X Y M : Nat} {w : World} (hnx : nx ≤ 4000) (hny : ny ≤ 4000) (hnm : nm ≤ 4000) (hx : Bs w ax nx cx X) (hy : Bs w ay ny cy Y) (hm : Bs w am nm cm M) :
    Calls Try.prog 52 #[.slice ax nx cx, .slice ay ny cy, .slice am nm cm] w (RetInt w (optI (1 < M ∧ X < M ∧ Y < M) (eqN X Y))) := by
  have hdx := hx.nd
  have hdy := hy.nd
  by_cases h : 1 < M ∧ X < M ∧ Y < M
  · rw [optI_yes h]
    obtain ⟨h1, h2, h3⟩ := h
    go_enter Try.func52, Try.ntmps52
    go_wp2_with fail
    with_reducible refine (sBoth_yes (by omega) (by omega) (by omega) hx hy hm h1 h2 h3).mono ?_
    rintro e w1 ⟨a1, c1, a2, c2, a3, c3, rfl, hsx, hsy, hsm, hu1⟩
    go_wp2_with fail
    with_reducible refine (sSame_any a1 a2 c1 c2 X Y w1 (by omega) (by omega) hsx hsy).mono ?_
    rintro e w2 ⟨rfl, hu2⟩
    go_wp2_with fail
    go_ret2
    exact ⟨rfl, hu1.trans hu2⟩
  · rw [optI_no h]
    go_enter Try.func52, Try.ntmps52
    go_wp2_with fail
    with_reducible refine (sBoth_no (by omega) (by omega) (by omega) hx hy hm h).mono ?_
    rintro e w1 ⟨x, y, z, rfl, hu1⟩
    go_wp2_with fail
    go_ret2
    exact ⟨rfl, hu1⟩
set_option maxRecDepth 100000 in
set_option maxHeartbeats 1000000 in
theorem sModulusBytes_bs {a : Option Addr} {n c M : Nat} {w : World} (hn : n ≤ 4000) (h : Bs w a n c M) :
    Calls Try.prog 39 #[.slice a n c] w (RetOpt w (optN (1 < M) M M)) := by
  have hd := h.nd
  have hb := h.blen
  by_cases h1 : 1 < M
  · rw [optN_yes h1]
    go_enter Try.func39, Try.ntmps39
    go_wp2_with fail
    with_reducible refine (sModulus_yes (by omega) h h1).mono ?_
    rintro e w1 ⟨a1, c1, rfl, hs1, hu1⟩
    go_wp2_with fail
    with_reducible refine (short_any a1 c1 M w1 (by omega) hs1.rd).mono ?_
    rintro e w2 ⟨a2, c2, rfl, hs2, hu2⟩
    go_wp2_with fail
    go_ret2
    exact ⟨a2, c2, rfl, .of_nb hs2, hu1.trans hu2⟩
  · rw [optN_no h1]
    go_enter Try.func39, Try.ntmps39
    go_wp2_with fail
    with_reducible refine (sModulus_no (by omega) h h1).mono ?_
    rintro e w1 ⟨a1, c1, rfl, hs1, hu1⟩
    go_wp2_with fail
    go_ret2
    exact ⟨rfl, hu1⟩
set_option maxRecDepth 100000 in
set_option maxHeartbeats 1000000 in
theorem sIsZero_bs {ax am : Option Addr} {nx cx nm cm X M : Nat} {w : World} (hnx : nx ≤ 4000) (hnm : nm ≤ 4000) (hx : Bs w ax nx cx X) (hm : Bs w am nm cm M) :
    Calls Try.prog 47 #[.slice ax nx cx, .slice am nm cm] w (RetInt w (optI (1 < M ∧ X < M) (eqN X 0))) := by
  have k1 := sEqual_bs hnx (by omega) hnm hx (Bs.emp w) hm
  have ho : optI (1 < M ∧ X < M ∧ 0 < M) (eqN X 0) = optI (1 < M ∧ X < M) (eqN X 0) := by
    by_cases h : 1 < M ∧ X < M
    · rw [optI_yes h, optI_yes (by omega)]
    · rw [optI_no h, optI_no (by omega)]
  rw [ho] at k1
  by_cases h : 1 < M ∧ X < M
  · rw [optI_yes h] at k1 ⊢
    replace k1 := Lib.hid k1
    clear h ho hx hm
    go_enter Try.func47, Try.ntmps47
    go_wp2_with fail
    with_reducible refine k1.out.mono ?_
    rintro e w1 ⟨rfl, hu1⟩
    go_wp2_with fail
    go_ret2
    exact ⟨rfl, hu1⟩
  · rw [optI_no h] at k1 ⊢
    replace k1 := Lib.hid k1
    clear h ho hx hm
    go_enter Try.func47, Try.ntmps47
    go_wp2_with fail
    with_reducible refine k1.out.mono ?_
    rintro e w1 ⟨rfl, hu1⟩
    go_wp2_with fail
    go_ret2
    exact ⟨rfl, hu1⟩
set_option maxRecDepth 100000 in
set_option maxHeartbeats 1000000 in
theorem sIsOdd_bs {ax am : Option Addr} {nx cx nm cm X M : Nat} {w : World} (hnx : nx ≤ 4000) (hnm : nm ≤ 4000) (hx : Bs w ax nx cx X) (hm : Bs w am nm cm M) :
    Calls Try.prog 44 #[.slice ax nx cx, .slice am nm cm] w (RetInt w (optI (1 < M ∧ X < M) (X % 2))) := by
  have hdx := hx.nd
  by_cases h : 1 < M ∧ X < M
  · rw [optI_yes h]
    obtain ⟨h1, h2⟩ := h
    rcases Nat.mod_two_eq_zero_or_one X with ho | ho
    · have HD := Lib.hid (decide_eq_true ho)
      rw [ho]
      clear ho
      go_enter Try.func44, Try.ntmps44
      go_wp2_with fail
      with_reducible refine (sBoth_yes (by omega) (by omega) (by omega) hx (Bs.emp _) hm h1 h2 (by omega)).mono ?_
      rintro e w1 ⟨a1, c1, a2, c2, a3, c3, rfl, hsx, hsy, hsm, hu1⟩
      have k1 := even_any a1 c1 X w1 (by omega) hsx.rd
      rw [HD.out] at k1
      replace k1 := Lib.hid k1
      go_wp2_with fail
      with_reducible refine k1.out.mono ?_
      rintro e w' ⟨rfl, rfl⟩
      go_wp2_with fail
      go_ret2
      exact ⟨rfl, hu1⟩
    · have HD : Hid (decide (X % 2 = 0) = false) := decide_eq_false (by omega)
      rw [ho]
      clear ho
      go_enter Try.func44, Try.ntmps44
      go_wp2_with fail
      with_reducible refine (sBoth_yes (by omega) (by omega) (by omega) hx (Bs.emp _) hm h1 h2 (by omega)).mono ?_
      rintro e w1 ⟨a1, c1, a2, c2, a3, c3, rfl, hsx, hsy, hsm, hu1⟩
      have k1 := even_any a1 c1 X w1 (by omega) hsx.rd
      rw [HD.out] at k1
      replace k1 := Lib.hid k1
      go_wp2_with fail
      with_reducible refine k1.out.mono ?_
      rintro e w' ⟨rfl, rfl⟩
      go_wp2_with fail
      go_ret2
      exact ⟨rfl, hu1⟩
  · rw [optI_no h]
    have h' : ¬ (1 < M ∧ X < M ∧ 0 < M) := by omega
    go_enter Try.func44, Try.ntmps44
    go_wp2_with fail
    with_reducible refine (sBoth_no (by omega) (by omega) (by omega) hx (Bs.emp _) hm h').mono ?_
    rintro e w1 ⟨x, y, z, rfl, hu1⟩
    go_wp2_with fail
    go_ret2
    exact ⟨rfl, hu1⟩
set_option maxRecDepth 100000 in
set_option maxHeartbeats 1000000 in
theorem sModulusProduct_bs {a a' : Option Addr} {n c n' c' A B : Nat} {w : World} (hn : n ≤ 1000) (hn' : n' ≤ 1000) (hA : Bs w a n c A) (hB : Bs w a' n' c' B) :
    Calls Try.prog 41 #[.slice a n c, .slice a' n' c'] w (RetOpt w (optN (1 < A * B) (A * B) (A * B))) := by
  have hdA := hA.nd
  have hdB := hB.nd
  have hm := nd_mul A B
  have hbl : blen (A * B) ≤ 32000 := by unfold nd at hm hdA hdB; omega
  have hnb : nb (A * B) ≤ 4000 := by unfold nb; omega
  obtain ⟨P, HP⟩ : ∃ P, Hid (P = A * B) := ⟨_, rfl⟩
  have kp := fun (w : World) (x y : Option Addr) (cx cy : Nat) h1 h2 => product_any x y cx cy A B w (by omega) (by omega) h1 h2
  rw [← HP.out] at hbl hnb hm kp ⊢
  have k2 : ∀ (x : Option Addr) (cx : Nat) (w : World), Bs w x (nb P) cx P → Calls Try.prog 39 #[.slice x (nb P) cx] w (RetOpt w (optN (1 < P) P P)) := fun _ _ _ h => sModulusBytes_bs hnb h
  replace kp := Lib.hid kp
  by_cases h1 : 1 < P
  · rw [optN_yes h1] at k2 ⊢
    replace k2 := Lib.hid k2
    clear h1
    go_enter Try.func41, Try.ntmps41
    go_wp2_with fail
    with_reducible refine (read_bs (by omega) hA).mono ?_
    rintro e w1 ⟨a1, c1, rfl, hs1, hu1⟩
    go_wp2_with fail
    with_reducible refine (read_bs (by omega) (hB.keep hu1)).mono ?_
    rintro e w2 ⟨a2, c2, rfl, hs2, hu2⟩
    go_wp2_with fail
    with_reducible refine (kp.out w2 a1 a2 c1 c2 (hs1.keep hu2).rd hs2.rd).mono ?_
    rintro e w3 ⟨a3, c3, rfl, hs3, hu3⟩
    go_wp2_with fail
    with_reducible refine (short_any a3 c3 P w3 (by omega) hs3.rd).mono ?_
    rintro e w4 ⟨a4, c4, rfl, hs4, hu4⟩
    go_wp2_with fail
    with_reducible refine (k2.out a4 c4 w4 (.of_nb hs4)).mono ?_
    rintro e w5 ⟨a5, c5, rfl, h5, hu5⟩
    go_wp2_with fail
    go_ret2
    exact ⟨a5, c5, rfl, h5, (((hu1.trans hu2).trans hu3).trans hu4).trans hu5⟩
  · rw [optN_no h1] at k2 ⊢
    replace k2 := Lib.hid k2
    clear h1
    go_enter Try.func41, Try.ntmps41
    go_wp2_with fail
    with_reducible refine (read_bs (by omega) hA).mono ?_
    rintro e w1 ⟨a1, c1, rfl, hs1, hu1⟩
    go_wp2_with fail
    with_reducible refine (read_bs (by omega) (hB.keep hu1)).mono ?_
    rintro e w2 ⟨a2, c2, rfl, hs2, hu2⟩
    go_wp2_with fail
    with_reducible refine (kp.out w2 a1 a2 c1 c2 (hs1.keep hu2).rd hs2.rd).mono ?_
    rintro e w3 ⟨a3, c3, rfl, hs3, hu3⟩
    go_wp2_with fail
    with_reducible refine (short_any a3 c3 P w3 (by omega) hs3.rd).mono ?_
    rintro e w4 ⟨a4, c4, rfl, hs4, hu4⟩
    go_wp2_with fail
    with_reducible refine (k2.out a4 c4 w4 (.of_nb hs4)).mono ?_
    rintro e w5 ⟨rfl, hu5⟩
    go_wp2_with fail
    go_ret2
    exact ⟨rfl, (((hu1.trans hu2).trans hu3).trans hu4).trans hu5⟩
end Go.Proofs.Ytmbghmjllipbhaa
