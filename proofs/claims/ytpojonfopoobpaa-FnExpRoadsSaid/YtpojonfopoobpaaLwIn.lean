/-
  Contracts of the laws' own helpers: beyond, in, set.
-/
import Derived.Test.YtpojonfopoobpaaImpA
namespace Go.Proofs.Ytpojonfopoobpaa
open Go.RowKit

set_option maxRecDepth 100000 in
set_option maxHeartbeats 1000000 in
theorem beyond_yes {ax am : Option Addr} {nx cx nm cm X M : Nat} {w : World} (h : 300 < nm ∨ 300 < nx ∨ (1 < M ∧ nb M < nx)) (hx : Bs w ax nx cx X) (hm : Bs w am nm cm M) :
    Calls Try.prog 38 #[.slice ax nx cx, .slice am nm cm] w fun e w' => e = .returned (.bool true) ∧ Upd0 w w' := by
  by_cases h1 : 300 < nm
  · clear h
    go_enter Try.func38, Try.ntmps38
    go_wp2_with fail
    with_reducible refine (long_yes h1 hm).mono ?_
    rintro e w1 ⟨rfl, hu1⟩
    go_wp2_with fail
    go_ret
    exact ⟨rfl, hu1⟩
  · by_cases h2 : 300 < nx
    · clear h
      go_enter Try.func38, Try.ntmps38
      go_wp2_with fail
      with_reducible refine (long_no h1 hm).mono ?_
      rintro e w1 ⟨rfl, hu1⟩
      go_wp2_with fail
      with_reducible refine (long_yes h2 (hx.keep hu1)).mono ?_
      rintro e w2 ⟨rfl, hu2⟩
      go_wp2_with fail
      go_ret
      exact ⟨rfl, hu1.trans hu2⟩
    · have h3 : 1 < M := by omega
      have h4 : nb M < nx := by omega
      have h4' : ((nb M : Nat) : Int) < (nx : Int) := by omega
      clear h
      go_enter Try.func38, Try.ntmps38
      go_wp2_with fail
      with_reducible refine (long_no h1 hm).mono ?_
      rintro e w1 ⟨rfl, hu1⟩
      go_wp2_with fail
      with_reducible refine (long_no h2 (hx.keep hu1)).mono ?_
      rintro e w2 ⟨rfl, hu2⟩
      go_wp2_with fail
      with_reducible refine (sModulusSize_yes (by omega) ((hm.keep hu1).keep hu2) h3).mono ?_
      rintro e w3 ⟨rfl, hu3⟩
      go_wp2_with fail
      go_ret
      exact ⟨by first | rfl | exact ret_bool (decide_eq_true h4'), (hu1.trans hu2).trans hu3⟩
set_option maxRecDepth 100000 in
set_option maxHeartbeats 1000000 in
theorem beyond_no {ax am : Option Addr} {nx cx nm cm X M : Nat} {w : World} (h : ¬ (300 < nm ∨ 300 < nx ∨ (1 < M ∧ nb M < nx))) (hx : Bs w ax nx cx X) (hm : Bs w am nm cm M) :
    Calls Try.prog 38 #[.slice ax nx cx, .slice am nm cm] w fun e w' => e = .returned (.bool false) ∧ Upd0 w w' := by
  have h1 : ¬ 300 < nm := by omega
  have h2 : ¬ 300 < nx := by omega
  by_cases h3 : 1 < M
  · have h4' : ¬ ((nb M : Nat) : Int) < (nx : Int) := by omega
    clear h
    go_enter Try.func38, Try.ntmps38
    go_wp2_with fail
    with_reducible refine (long_no h1 hm).mono ?_
    rintro e w1 ⟨rfl, hu1⟩
    go_wp2_with fail
    with_reducible refine (long_no h2 (hx.keep hu1)).mono ?_
    rintro e w2 ⟨rfl, hu2⟩
    go_wp2_with fail
    with_reducible refine (sModulusSize_yes (by omega) ((hm.keep hu1).keep hu2) h3).mono ?_
    rintro e w3 ⟨rfl, hu3⟩
    go_wp2_with fail
    go_ret
    exact ⟨by first | rfl | exact ret_bool (decide_eq_false (by omega)), (hu1.trans hu2).trans hu3⟩
  · clear h
    go_enter Try.func38, Try.ntmps38
    go_wp2_with fail
    with_reducible refine (long_no h1 hm).mono ?_
    rintro e w1 ⟨rfl, hu1⟩
    go_wp2_with fail
    with_reducible refine (long_no h2 (hx.keep hu1)).mono ?_
    rintro e w2 ⟨rfl, hu2⟩
    go_wp2_with fail
    with_reducible refine (sModulusSize_no (by omega) ((hm.keep hu1).keep hu2) h3).mono ?_
    rintro e w3 ⟨rfl, hu3⟩
    go_wp2_with fail
    go_ret
    exact ⟨rfl, (hu1.trans hu2).trans hu3⟩
set_option maxRecDepth 100000 in
set_option maxHeartbeats 1000000 in
theorem in_yes {ax am : Option Addr} {nx cx nm cm X M : Nat} {w : World} (h : ¬ ¬ (nm ≤ 300 ∧ nx ≤ 300 ∧ nx ≤ nb M ∧ 1 < M ∧ X < M)) (hx : Bs w ax nx cx X) (hm : Bs w am nm cm M) :
    Calls Try.prog 22 #[.slice ax nx cx, .slice am nm cm] w fun e w' => e = .returned (.bool true) ∧ Upd0 w w' := by
  have h1 : nm ≤ 300 ∧ nx ≤ 300 ∧ nx ≤ nb M ∧ 1 < M ∧ X < M := Decidable.not_not.1 h
  have hb : ¬ (300 < nm ∨ 300 < nx ∨ (1 < M ∧ nb M < nx)) := by omega
  have k1 := fun (w : World) (hx : Bs w ax nx cx X) (hm : Bs w am nm cm M) => sSetBytes_bs (w := w) (by omega) (by omega) hx hm
  rw [optN_yes ⟨h1.2.2.2.1, h1.2.2.2.2⟩] at k1
  replace k1 := Lib.hid k1
  clear h h1
  go_enter Try.func22, Try.ntmps22
  go_wp2_with fail
  with_reducible refine (beyond_no hb hx hm).mono ?_
  rintro e w1 ⟨rfl, hu1⟩
  go_wp2_with fail
  with_reducible refine (k1.out _ (hx.keep hu1) (hm.keep hu1)).mono ?_
  rintro e w2 ⟨a2, c2, rfl, hs2, hu2⟩
  go_wp2_with fail
  go_ret
  exact ⟨rfl, hu1.trans hu2⟩
set_option maxRecDepth 100000 in
set_option maxHeartbeats 1000000 in
theorem in_no {ax am : Option Addr} {nx cx nm cm X M : Nat} {w : World} (h : ¬ (nm ≤ 300 ∧ nx ≤ 300 ∧ nx ≤ nb M ∧ 1 < M ∧ X < M)) (hx : Bs w ax nx cx X) (hm : Bs w am nm cm M) :
    Calls Try.prog 22 #[.slice ax nx cx, .slice am nm cm] w fun e w' => e = .returned (.bool false) ∧ Upd0 w w' := by
  by_cases hb : 300 < nm ∨ 300 < nx ∨ (1 < M ∧ nb M < nx)
  · clear h
    go_enter Try.func22, Try.ntmps22
    go_wp2_with fail
    with_reducible refine (beyond_yes hb hx hm).mono ?_
    rintro e w1 ⟨rfl, hu1⟩
    go_wp2_with fail
    go_ret
    exact ⟨rfl, hu1⟩
  · have hc : ¬ (1 < M ∧ X < M) := by omega
    have k1 := fun (w : World) (hx : Bs w ax nx cx X) (hm : Bs w am nm cm M) => sSetBytes_bs (w := w) (by omega) (by omega) hx hm
    rw [optN_no hc] at k1
    replace k1 := Lib.hid k1
    clear h hc
    go_enter Try.func22, Try.ntmps22
    go_wp2_with fail
    with_reducible refine (beyond_no hb hx hm).mono ?_
    rintro e w1 ⟨rfl, hu1⟩
    go_wp2_with fail
    with_reducible refine (k1.out _ (hx.keep hu1) (hm.keep hu1)).mono ?_
    rintro e w2 ⟨rfl, hu2⟩
    go_wp2_with fail
    go_ret
    exact ⟨rfl, hu1.trans hu2⟩
set_option maxRecDepth 100000 in
set_option maxHeartbeats 1000000 in
theorem set_bs {ax am : Option Addr} {nx cx nm cm X M : Nat} {w : World} (hnx : nx ≤ nb M) (hnm : nm ≤ 4000) (h1 : 1 < M) (h2 : X < M) (hx : Bs w ax nx cx X) (hm : Bs w am nm cm M) :
    Calls Try.prog 25 #[.slice ax nx cx, .slice am nm cm] w (RetBs w (nb M) X) := by
  have k1 := iSetBytes_bs (fun _ => hnx) hnm hx hm
  rw [optN_yes ⟨h1, h2⟩] at k1
  replace k1 := Lib.hid k1
  clear h1 h2 hnx hnm
  go_enter Try.func25, Try.ntmps25
  go_wp2_with fail
  with_reducible refine k1.out.mono ?_
  rintro e w2 ⟨a2, c2, rfl, hs2, hu2⟩
  go_wp2_with fail
  go_ret
  exact ⟨a2, c2, rfl, hs2, hu2⟩
theorem same_eq2 {a a' : Option Addr} {n c c' N N' : Nat} {w : World} (hn : n ≤ 1048576) (h : Bs w a n c N) (h' : Bs w a' n c' N') (e : N = N') :
    Calls Try.prog 24 #[.slice a n c, .slice a' n c'] w fun e w' => e = .returned (.bool true) ∧ Upd0 w w' := by
  subst e
  exact same_eq hn h h'
/-- What is returned where a condition holds, or not. -/
theorem optN_ca (c : Prop) [Decidable c] (M N : Nat) : (c ∧ Hid (optN c M N = some (nb M, N))) ∨ (¬ c ∧ Hid (optN c M N = none)) := by
  by_cases h : c
  · exact .inl ⟨h, optN_yes h M N⟩
  · exact .inr ⟨h, optN_no h M N⟩
theorem optN_iff {c d : Prop} [Decidable c] [Decidable d] (h : c ↔ d) (M N : Nat) : optN c M N = optN d M N := by
  by_cases hc : c
  · rw [optN_yes hc, optN_yes (h.1 hc)]
  · rw [optN_no hc, optN_no (fun hd => hc (h.2 hd))]
theorem optI_ca (c : Prop) [Decidable c] (N : Nat) : (c ∧ Hid (optI c N = some N)) ∨ (¬ c ∧ Hid (optI c N = none)) := by
  by_cases h : c
  · exact .inl ⟨h, optI_yes h N⟩
  · exact .inr ⟨h, optI_no h N⟩
end Go.Proofs.Ytpojonfopoobpaa
