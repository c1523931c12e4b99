/-
  Contracts of the reference's functions modulo m.
-/
import Derived.Test.YtmbghmjllipbhaaSpecG
import Derived.Test.YtmbghmjllipbhaaBs
namespace Go.Proofs.Ytmbghmjllipbhaa
open Go.RowKit

/-- A number of the reference, and a bool, are returned. -/
def RetNumB (w : World) (N : Nat) (b : Bool) (e : Ending) (w' : World) : Prop :=
  ∃ a c, e = .returned (.tuple #[.slice a (nd N) c, .bool b]) ∧ Sl .i64 w' a (nd N) c (dg 65536 N) ∧ Upd0 w w'
/-- Something where c holds: N in as many bytes as M has. -/
def optN (c : Prop) [Decidable c] (M N : Nat) : Option (Nat × Nat) := if c then some (nb M, N) else none
theorem optN_yes {c : Prop} [Decidable c] (h : c) (M N : Nat) : optN c M N = some (nb M, N) := if_pos h
theorem optN_no {c : Prop} [Decidable c] (h : ¬ c) (M N : Nat) : optN c M N = none := if_neg h
theorem drewUpd {w w' : World} (h : ∃ k, w' = w.drewN k) : Upd0 w w' := by
  obtain ⟨k, rfl⟩ := h
  exact (Upd.refl _ _).drewN k

theorem small_two (w : World) : Calls Try.prog 109 #[.int .i64 2] w (RetNum w 2) := small_any 2 w (by omega)
theorem small_one (w : World) : Calls Try.prog 109 #[.int .i64 1] w (RetNum w 1) := small_any 1 w (by omega)
set_option maxRecDepth 100000 in
set_option maxHeartbeats 1000000 in
theorem sModulus_yes {a : Option Addr} {n c M : Nat} {w : World} (hn : n ≤ 10000) (h : Bs w a n c M) (hM : 1 < M) :
    Calls Try.prog 90 #[.slice a n c] w (RetNumB w M true) := by
  have hd := h.nd
  have hl : decide (M < 2) = false := by simp; omega
  replace hl := Lib.hid hl
  clear hM
  go_enter Try.func90, Try.ntmps90
  go_wp2_with fail
  with_reducible refine (read_bs (by omega) h).mono ?_
  rintro e w1 ⟨a1, c1, rfl, hs1, hu1⟩
  go_wp2_with fail
  with_reducible refine (small_two w1).mono ?_
  rintro e w2 ⟨a2, c2, rfl, hs2, hu2⟩
  have h2 : nd 2 = 1 := rfl
  have k1 := less_any a1 a2 c1 c2 M 2 w2 (by omega) (by rw [h2]; omega) (hs1.keep hu2).rd hs2.rd
  rw [hl.out] at k1
  replace k1 := Lib.hid k1
  clear h2
  go_wp2_with fail
  with_reducible refine k1.out.mono ?_
  rintro e w3 ⟨rfl, hu3⟩
  replace hu3 := drewUpd hu3
  go_wp2_with fail
  go_ret2
  exact ⟨a1, c1, rfl, (hs1.keep hu2).keep hu3, (hu1.trans hu2).trans hu3⟩
set_option maxRecDepth 100000 in
set_option maxHeartbeats 1000000 in
theorem sModulus_no {a : Option Addr} {n c M : Nat} {w : World} (hn : n ≤ 10000) (h : Bs w a n c M) (hM : ¬ 1 < M) :
    Calls Try.prog 90 #[.slice a n c] w (RetNumB w M false) := by
  have hd := h.nd
  have hl : decide (M < 2) = true := by simp; omega
  replace hl := Lib.hid hl
  clear hM
  go_enter Try.func90, Try.ntmps90
  go_wp2_with fail
  with_reducible refine (read_bs (by omega) h).mono ?_
  rintro e w1 ⟨a1, c1, rfl, hs1, hu1⟩
  go_wp2_with fail
  with_reducible refine (small_two w1).mono ?_
  rintro e w2 ⟨a2, c2, rfl, hs2, hu2⟩
  have h2 : nd 2 = 1 := rfl
  have k1 := less_any a1 a2 c1 c2 M 2 w2 (by omega) (by rw [h2]; omega) (hs1.keep hu2).rd hs2.rd
  rw [hl.out] at k1
  replace k1 := Lib.hid k1
  clear h2
  go_wp2_with fail
  with_reducible refine k1.out.mono ?_
  rintro e w3 ⟨rfl, hu3⟩
  replace hu3 := drewUpd hu3
  go_wp2_with fail
  go_ret2
  exact ⟨a1, c1, rfl, (hs1.keep hu2).keep hu3, (hu1.trans hu2).trans hu3⟩
set_option maxRecDepth 100000 in
set_option maxHeartbeats 1000000 in
theorem sWithin_any {a a' : Option Addr} {n c c' X M : Nat} {w : World} (hn : n ≤ 10000) (hM : nd M ≤ 10000) (h : Bs w a n c X) (hm : Sl .i64 w a' (nd M) c' (dg 65536 M)) :
    Calls Try.prog 113 #[.slice a n c, .slice a' (nd M) c'] w (RetNumB w X (decide (X < M))) := by
  have hd := h.nd
  go_enter Try.func113, Try.ntmps113
  go_wp2_with fail
  with_reducible refine (read_bs (by omega) h).mono ?_
  rintro e w1 ⟨a1, c1, rfl, hs1, hu1⟩
  have k1 := less_any a1 a' c1 c' X M w1 (by omega) (by omega) hs1.rd (hm.keep hu1).rd
  obtain ⟨bb, Hb⟩ : ∃ bb, Hid (bb = decide (X < M)) := ⟨_, rfl⟩
  rw [← Hb.out] at k1
  replace k1 := Lib.hid k1
  go_wp2_with fail
  with_reducible refine k1.out.mono ?_
  rintro e w3 ⟨rfl, hu3⟩
  replace hu3 := drewUpd hu3
  go_wp2_with fail
  go_ret2
  exact ⟨a1, c1, by rw [Hb.out]; rfl, hs1.keep hu3, hu1.trans hu3⟩
/-- The numbers of both, and true. -/
def RetBoth (w : World) (X Y M : Nat) (e : Ending) (w' : World) : Prop :=
  ∃ a c a' c' a'' c'', e = .returned (.tuple #[.slice a (nd X) c, .slice a' (nd Y) c', .slice a'' (nd M) c'', .bool true]) ∧ Sl .i64 w' a (nd X) c (dg 65536 X) ∧ Sl .i64 w' a' (nd Y) c' (dg 65536 Y) ∧ Sl .i64 w' a'' (nd M) c'' (dg 65536 M) ∧ Upd0 w w'
/-- Both: false. -/
def RetBoth0 (w : World) (e : Ending) (w' : World) : Prop :=
  ∃ x y z, e = .returned (.tuple #[x, y, z, .bool false]) ∧ Upd0 w w'
set_option maxRecDepth 100000 in
set_option maxHeartbeats 1000000 in
theorem sBoth_yes {ax ay am : Option Addr} {nx cx ny cy nm cm X Y M : Nat} {w : World} (hnx : nx ≤ 10000) (hny : ny ≤ 10000) (hnm : nm ≤ 10000) (hx : Bs w ax nx cx X) (hy : Bs w ay ny cy Y) (hm : Bs w am nm cm M) (h1 : 1 < M) (h2 : X < M) (h3 : Y < M) :
    Calls Try.prog 71 #[.slice ax nx cx, .slice ay ny cy, .slice am nm cm] w (RetBoth w X Y M) := by
  have hdm := hm.nd
  have E1 := Lib.hid (decide_eq_true h2)
  have E2 := Lib.hid (decide_eq_true h3)
  go_enter Try.func71, Try.ntmps71
  go_wp2_with fail
  with_reducible refine (sModulus_yes hnm hm h1).mono ?_
  rintro e w1 ⟨am', cm', rfl, hsm, hu1⟩
  go_wp2_with fail
  have k1 := sWithin_any hnx (by omega) (hx.keep hu1) hsm
  rw [E1.out] at k1
  replace k1 := Lib.hid k1
  with_reducible refine k1.out.mono ?_
  rintro e w2 ⟨ax', cx', rfl, hsx, hu2⟩
  go_wp2_with fail
  have k2 := sWithin_any hny (by omega) ((hy.keep hu1).keep hu2) (hsm.keep hu2)
  rw [E2.out] at k2
  replace k2 := Lib.hid k2
  with_reducible refine k2.out.mono ?_
  rintro e w3 ⟨ay', cy', rfl, hsy, hu3⟩
  go_wp2_with fail
  exact bodyPost_ret (v := .tuple #[.slice ax' (nd X) cx', .slice ay' (nd Y) cy', .slice am' (nd M) cm', .bool true]) (by simp [results, Try.results71, go_sem]) rfl ⟨_, _, _, _, _, _, rfl, hsx.keep hu3, hsy, (hsm.keep hu2).keep hu3, (hu1.trans hu2).trans hu3⟩
set_option maxRecDepth 100000 in
set_option maxHeartbeats 1000000 in
theorem sBoth_no {ax ay am : Option Addr} {nx cx ny cy nm cm X Y M : Nat} {w : World} (hnx : nx ≤ 10000) (hny : ny ≤ 10000) (hnm : nm ≤ 10000) (hx : Bs w ax nx cx X) (hy : Bs w ay ny cy Y) (hm : Bs w am nm cm M) (h : ¬ (1 < M ∧ X < M ∧ Y < M)) :
    Calls Try.prog 71 #[.slice ax nx cx, .slice ay ny cy, .slice am nm cm] w (RetBoth0 w) := by
  have hdm := hm.nd
  by_cases h1 : 1 < M
  · by_cases h2 : X < M
    · have E1 := Lib.hid (decide_eq_true h2)
      have E2 : Hid (decide (Y < M) = false) := decide_eq_false (by omega)
      go_enter Try.func71, Try.ntmps71
      go_wp2_with fail
      with_reducible refine (sModulus_yes hnm hm h1).mono ?_
      rintro e w1 ⟨am', cm', rfl, hsm, hu1⟩
      go_wp2_with fail
      have k1 := sWithin_any hnx (by omega) (hx.keep hu1) hsm
      rw [E1.out] at k1
      replace k1 := Lib.hid k1
      with_reducible refine k1.out.mono ?_
      rintro e w2 ⟨ax', cx', rfl, hsx, hu2⟩
      go_wp2_with fail
      have k2 := sWithin_any hny (by omega) ((hy.keep hu1).keep hu2) (hsm.keep hu2)
      rw [E2.out] at k2
      replace k2 := Lib.hid k2
      with_reducible refine k2.out.mono ?_
      rintro e w3 ⟨ay', cy', rfl, hsy, hu3⟩
      go_wp2_with fail
      exact bodyPost_ret (v := .tuple #[.slice ax' (nd X) cx', .slice ay' (nd Y) cy', .slice am' (nd M) cm', .bool false]) (by simp [results, Try.results71, go_sem]) rfl ⟨_, _, _, rfl, (hu1.trans hu2).trans hu3⟩
    · have E1 := Lib.hid (decide_eq_false h2)
      obtain ⟨bb, Hb⟩ : ∃ bb, Hid (decide (Y < M) = bb) := ⟨_, rfl⟩
      go_enter Try.func71, Try.ntmps71
      go_wp2_with fail
      with_reducible refine (sModulus_yes hnm hm h1).mono ?_
      rintro e w1 ⟨am', cm', rfl, hsm, hu1⟩
      go_wp2_with fail
      have k1 := sWithin_any hnx (by omega) (hx.keep hu1) hsm
      rw [E1.out] at k1
      replace k1 := Lib.hid k1
      with_reducible refine k1.out.mono ?_
      rintro e w2 ⟨ax', cx', rfl, hsx, hu2⟩
      go_wp2_with fail
      have k2 := sWithin_any hny (by omega) ((hy.keep hu1).keep hu2) (hsm.keep hu2)
      rw [Hb.out] at k2
      replace k2 := Lib.hid k2
      with_reducible refine k2.out.mono ?_
      rintro e w3 ⟨ay', cy', rfl, hsy, hu3⟩
      go_wp2_with fail
      exact bodyPost_ret (v := .tuple #[.slice ax' (nd X) cx', .slice ay' (nd Y) cy', .slice am' (nd M) cm', .bool false]) (by simp [results, Try.results71, go_sem]) rfl ⟨_, _, _, rfl, (hu1.trans hu2).trans hu3⟩
  · go_enter Try.func71, Try.ntmps71
    go_wp2_with fail
    with_reducible refine (sModulus_no hnm hm h1).mono ?_
    rintro e w1 ⟨am', cm', rfl, hsm, hu1⟩
    go_wp2_with fail
    exact bodyPost_ret (v := .tuple #[.slice none 0 0, .slice none 0 0, .slice none 0 0, .bool false]) (by simp [results, Try.results71, go_sem]) rfl ⟨_, _, _, rfl, hu1⟩
set_option maxRecDepth 100000 in
set_option maxHeartbeats 1000000 in
theorem sTold_any {a a' : Option Addr} {c c' N M : Nat} {w : World} (hN : nd N ≤ 10000) (hM : nd M ≤ 10000) (h0 : 0 < M) (hsn : Sl .i64 w a (nd N) c (dg 65536 N)) (hsm : Sl .i64 w a' (nd M) c' (dg 65536 M)) :
    Calls Try.prog 73 #[.slice a (nd N) c, .slice a' (nd M) c'] w (RetOpt w (some (nb M, N % M))) := by
  have hb : blen M ≤ 160000 := by unfold nd at hM; omega
  have hnb : nb M ≤ 20000 := by unfold nb; omega
  have h8 : (((blen M : Nat) : Int) + 7) / 8 = ((nb M : Nat) : Int) := by unfold nb; omega
  have HR : Hid (N % M < 256 ^ nb M) := Nat.lt_trans (Nat.mod_lt N h0) (lt_pow_nb M)
  have HRn : Hid (nd (N % M) ≤ 10000) := Nat.le_trans (nd_mono (Nat.le_of_lt (Nat.mod_lt N h0))) hM
  have H8 := Lib.hid h8
  clear h8
  go_enter Try.func73, Try.ntmps73
  go_wp2_with fail
  with_reducible refine (quotient_any a a' c c' N M w hN hM h0 hsn hsm).mono ?_
  rintro e w1 ⟨aq, cq, ar, cr, rfl, hsq, hsr, hu1⟩
  go_wp2_with fail
  with_reducible refine (bits_any a' c' M w1 (by omega) (hsm.keep hu1).rd).mono ?_
  rintro e w' ⟨rfl, rfl⟩
  go_wp2_with fail
  rw [H8.out]
  with_reducible refine (octets_any ar cr (N % M) (nb M) w1 (by have := HRn.out; omega) (by omega) hsr.rd).mono ?_
  rintro e w2 ⟨a2, c2, rfl, hs2, hu2⟩
  go_wp2_with fail
  go_ret2
  exact ⟨a2, c2, rfl, .of_dg hs2 HR.out, hu1.trans hu2⟩
end Go.Proofs.Ytmbghmjllipbhaa
