/-
  Contracts: GCDVarTime, impl.isZero, impl.isOdd, impl.GCD, spec.divisor, spec.GCD.
  Contracts: impl.GCD, spec.divisor, spec.GCD.
-/
import Derived.Test.YtpojonfopoobpaaGcdA
import Derived.Test.YtpojonfopoobpaaLwBase
import Derived.Test.YtpojonfopoobpaaSpecF
namespace Go.Proofs.Ytpojonfopoobpaa
open Go.RowKit

set_option maxRecDepth 100000 in
set_option maxHeartbeats 1000000 in
theorem gcdVT_any (p b c nx X pa ba ca na a pm bm cm nm m : Nat) (w : World) (hx : NatAt w p b c nx X) (hxa : NatAt w pa ba ca na a) (hxm : NatAt w pm bm cm nm m) (ha0 : 0 < a) (hm0 : 0 < m) (hod : a % 2 = 1 ∨ m % 2 = 1) :
    Calls Try.prog 79 #[.pointer (some ⟨p, 0, none⟩), .pointer (some ⟨pa, 0, none⟩), .pointer (some ⟨pm, 0, none⟩)] w fun e w' => e = .returned (.tuple #[.pointer (some ⟨p, 0, none⟩), .nilIface]) ∧ Grown w p b (max na nm) (Nat.gcd a m) w' := by
  have hlp := hx.hp
  have hlb := hx.hb
  have k1 := extGCD_any pa ba ca na a pm bm cm nm m w hxa hxm ha0 hm0 hod
  generalize max na nm = ns at *
  replace k1 := Lib.hid k1
  clear hxa hxm ha0 hm0 hod
  go_enter Try.func79, Try.ntmps79
  go_wp2_with fail
  with_reducible refine k1.out.mono ?_
  rintro e w1 ⟨pu, bu, cu, pA, bA, cA, A, rfl, hu, hA, _, g1, g2, g3, g4, hup⟩
  go_wp2_with fail
  with_reducible refine (set_any p b c nx X pu bu cu ns (Nat.gcd a m) w1 (hx.keep0 hup) hu (by omega) (by omega) (by omega) (by omega)).mono ?_
  rintro e w2 ⟨rfl, b1, c1, hx2, hb2, hu2⟩
  have hz := hup.size
  go_wp2_with fail
  go_ret2
  exact ⟨rfl, b1, c1, hx2, by rcases hb2 with h | h; exact .inl h; exact .inr (by omega), hup.mono (fun _ _ h => h.elim) |>.then hu2 (fun _ _ h => h)⟩

set_option maxHeartbeats 400000 in
theorem isZero1_any (d : Nat) (w : World) (_hd : d < 256) :
    Calls Try.prog 118 #[.int .u8 d] w fun e w' => e = .returned (.bool ((d : Int) != 0)) ∧ w = w' := by
  go_enter Try.func118, Try.ntmps118
  go_wp2
  go_ret
  exact ⟨rfl, rfl⟩
set_option maxRecDepth 100000 in
set_option maxHeartbeats 1000000 in
theorem indexFunc_zero (a : Option Addr) (n c : Nat) (f : Nat → Nat) (w : World) (hn : n ≤ 1048576) (hf : ∀ i, i < n → f i = 0) (hs : Rd .u8 w a n f) :
    Calls Try.prog 144 #[.slice a n c, .func (.func 118) #[] #[]] w fun e w' => e = .returned (.int .i64 (-1)) ∧ w = w' := by
  have HF := Lib.hid hf
  clear hf
  go_enter Try.func144, Try.ntmps144
  go_wp2_with fail
  go_loop [4, 5, 8] (fun r j i => ∃ k : Nat, k ≤ n ∧ i = .int .i64 k) (fun _ _ i => n - (intOf i).toNat)
  case atStart => exact ⟨0, Nat.zero_le _, rfl⟩
  case round =>
    obtain ⟨k, hk, rfl⟩ := hrel
    by_cases hlt : k < n
    · obtain ⟨b, off, rfl, hc⟩ := hs.open (by omega)
      have hcell := hc k hlt
      rw [HF.out k hlt] at hcell
      have k1 : Calls Try.prog 118 #[.int .u8 0] w fun e w' => e = .returned (.bool false) ∧ w = w' := isZero1_any 0 w (by omega)
      replace k1 := Lib.hid k1
      clear hc
      go_wp2_with fail
      with_reducible refine k1.out.mono ?_
      rintro e w' ⟨rfl, rfl⟩
      go_wp2_with fail
      go_round
      case rel => exact ⟨k + 1, by omega, by go_num⟩
      case measure => simp [intOf]; omega
    · go_wp2_with fail
      go_ret
      exact ⟨rfl, rfl⟩
set_option maxRecDepth 100000 in
set_option maxHeartbeats 1000000 in
theorem indexFunc_some (a : Option Addr) (n c q : Nat) (f : Nat → Nat) (w : World) (hn : n ≤ 1048576) (hf : ∀ i, i < n → f i < 256) (hq : q < n) (h0 : f q ≠ 0) (hs : Rd .u8 w a n f) :
    Calls Try.prog 144 #[.slice a n c, .func (.func 118) #[] #[]] w fun e w' => (∃ k : Nat, k < n ∧ e = .returned (.int .i64 k)) ∧ w = w' := by
  have HF := Lib.hid hf
  have H0 := Lib.hid h0
  clear hf h0
  go_enter Try.func144, Try.ntmps144
  go_wp2_with fail
  go_loop [4, 5, 8] (fun r j i => ∃ k : Nat, k ≤ q ∧ i = .int .i64 k) (fun _ _ i => n - (intOf i).toNat)
  case atStart => exact ⟨0, Nat.zero_le _, rfl⟩
  case round =>
    obtain ⟨k, hk, rfl⟩ := hrel
    have hlt : k < n := by omega
    obtain ⟨b, off, d, rfl, hcell, hd, HD⟩ := byte_cell hs HF.out hlt
    have k1 := isZero1_any d w hd
    by_cases hz : d = 0
    · have hkq : k + 1 ≤ q := by
        rcases (show k = q ∨ k + 1 ≤ q by omega) with h | h
        · exact absurd (by rw [← h, ← HD.out]; exact hz) H0.out
        · exact h
      rw [show ((d : Int) != 0) = false by rw [hz]; simp] at k1
      replace k1 := Lib.hid k1
      clear hz
      go_wp2_with fail
      with_reducible refine k1.out.mono ?_
      rintro e w' ⟨rfl, rfl⟩
      go_wp2_with fail
      go_round
      case rel => exact ⟨k + 1, hkq, by go_num⟩
      case measure => simp [intOf]; omega
    · rw [show ((d : Int) != 0) = true by rw [bne_iff_ne]; omega] at k1
      replace k1 := Lib.hid k1
      clear hz
      go_wp2_with fail
      with_reducible refine k1.out.mono ?_
      rintro e w' ⟨rfl, rfl⟩
      go_wp2_with fail
      go_ret
      exact ⟨⟨k, hlt, rfl⟩, rfl⟩
/-- The thin package's test for 0. -/
theorem izeroT_bs {a : Option Addr} {n c N : Nat} {w : World} (hn : n ≤ 1048576) (h : Bs w a n c N) :
    Calls Try.prog 78 #[.slice a n c] w fun e w' => e = .returned (.bool (decide (N = 0))) ∧ w = w' := by
  obtain ⟨f, hf, hs, rfl⟩ := h
  by_cases h0 : be f n = 0
  · have k1 := indexFunc_zero a n c f w hn (be_eq_zero.1 h0) hs.rd
    rw [decide_eq_true h0]
    replace k1 := Lib.hid k1
    clear h0 hs hf
    have k2 : Calls Try.prog 117 #[.slice a n c, .func (.func 118) #[] #[]] w fun e w' => e = .returned (.bool false) ∧ w = w' := by
      go_enter Try.func117, Try.ntmps117
      go_wp2_with fail
      with_reducible refine k1.out.mono ?_
      rintro e w' ⟨rfl, rfl⟩
      go_wp2_with fail
      go_ret
      exact ⟨rfl, rfl⟩
    replace k2 := Lib.hid k2
    go_enter Try.func78, Try.ntmps78
    go_wp2_with fail
    with_reducible refine k2.out.mono ?_
    rintro e w' ⟨rfl, rfl⟩
    go_wp2_with fail
    go_ret
    exact ⟨rfl, rfl⟩
  · obtain ⟨q, hq, hq0⟩ : ∃ q, q < n ∧ f q ≠ 0 := by
      refine Classical.byContradiction fun hx => h0 (be_eq_zero.2 fun i hi => ?_)
      exact Classical.byContradiction fun hz => hx ⟨i, hi, hz⟩
    have k1 := indexFunc_some a n c q f w hn hf hq hq0 hs.rd
    rw [decide_eq_false h0]
    replace k1 := Lib.hid k1
    clear h0 hs hf hq0 hq
    have k2 : Calls Try.prog 117 #[.slice a n c, .func (.func 118) #[] #[]] w fun e w' => e = .returned (.bool true) ∧ w = w' := by
      go_enter Try.func117, Try.ntmps117
      go_wp2_with fail
      with_reducible refine k1.out.mono ?_
      rintro e w' ⟨⟨k, hk, rfl⟩, rfl⟩
      go_wp2_with fail
      go_ret
      exact ⟨rfl, rfl⟩
    replace k2 := Lib.hid k2
    go_enter Try.func78, Try.ntmps78
    go_wp2_with fail
    with_reducible refine k2.out.mono ?_
    rintro e w' ⟨rfl, rfl⟩
    go_wp2_with fail
    go_ret
    exact ⟨rfl, rfl⟩
theorem and_one8 {d : Nat} (hd : d < 256) : bits .and .u8 (d : Int) 1 = ((d % 2 : Nat) : Int) := by
  have h : (BitVec.ofInt 8 (d : Int) &&& BitVec.ofInt 8 1).toNat = d % 2 := by
    rw [BitVec.toNat_and, show (BitVec.ofInt 8 1).toNat = 1 from rfl, BitVec.ofInt_natCast, BitVec.toNat_ofNat, Nat.mod_eq_of_lt hd, Nat.and_one_is_mod]
  show IntKind.u8.wrap ((BitVec.ofInt 8 (d : Int) &&& BitVec.ofInt 8 1).toNat : Int) = _
  rw [h, IntWalk.u8_in _ (by omega)]
theorem be_odd' {f : Nat → Nat} {n : Nat} (h : 0 < n) : be f n % 2 = f (n - 1) % 2 := by
  obtain ⟨m, rfl⟩ : ∃ m, n = m + 1 := ⟨n - 1, by omega⟩
  simp only [be, Nat.add_sub_cancel]; omega
set_option maxRecDepth 100000 in
set_option maxHeartbeats 1000000 in
/-- The thin package's test whether a number is odd. -/
theorem ioddT_bs {a : Option Addr} {n c N : Nat} {w : World} (hn : n ≤ 1048576) (h : Bs w a n c N) :
    Calls Try.prog 55 #[.slice a n c] w fun e w' => e = .returned (.bool (decide (N % 2 = 1))) ∧ w = w' := by
  obtain ⟨f, hf, hs, rfl⟩ := h
  replace hs := hs.rd
  by_cases h0 : n = 0
  · subst h0
    go_enter Try.func55, Try.ntmps55
    go_wp2
    go_ret
    exact ⟨rfl, rfl⟩
  · obtain ⟨m, rfl⟩ : ∃ m, n = m + 1 := ⟨n - 1, by omega⟩
    have HB : Hid (be f (m + 1) % 2 = f m % 2) := be_odd' (n := m + 1) (by omega)
    obtain ⟨b, off, d, rfl, hcell, hd, HD⟩ := byte_cell hs hf (show m < m + 1 by omega)
    clear hs hf
    have e1 := and_one8 hd
    by_cases h2 : d % 2 = 1
    · have HY : Hid (decide (be f (m + 1) % 2 = 1) = true) := decide_eq_true (by rw [HB.out, ← HD.out]; exact h2)
      rw [h2] at e1
      clear h2
      go_enter Try.func55, Try.ntmps55
      go_wp2
      go_ret
      exact ⟨ret_bool HY.out.symm, rfl⟩
    · have HN : Hid (decide (be f (m + 1) % 2 = 1) = false) := decide_eq_false (by rw [HB.out, ← HD.out]; exact h2)
      rw [show d % 2 = 0 by omega] at e1
      clear h2
      go_enter Try.func55, Try.ntmps55
      go_wp2
      go_ret
      exact ⟨ret_bool HN.out.symm, rfl⟩
end Go.Proofs.Ytpojonfopoobpaa

namespace Go.Proofs.Ytpojonfopoobpaa
open Go.RowKit

/-- What GCD gives: nothing where one number is 0 or both are even. -/
def gcdO (A B : Nat) : Option (Nat × Nat) := if A = 0 ∨ B = 0 ∨ (A % 2 = 0 ∧ B % 2 = 0) then none else some (nb (Nat.gcd A B), Nat.gcd A B)
theorem gcdO_none {A B : Nat} (h : A = 0 ∨ B = 0 ∨ (A % 2 = 0 ∧ B % 2 = 0)) : gcdO A B = none := if_pos h
theorem gcdO_some {A B : Nat} (h : ¬ (A = 0 ∨ B = 0 ∨ (A % 2 = 0 ∧ B % 2 = 0))) : gcdO A B = some (nb (Nat.gcd A B), Nat.gcd A B) := if_neg h
theorem gcdO_cases {w : World} {a a' : Option Addr} {n c n' c' A B : Nat} (hA : Bs w a n c A) (_hB : Bs w a' n' c' B) : Hid (gcdO A B = none) ∨ ∃ S N, S ≤ n ∧ Hid (gcdO A B = some (S, N)) := by
  by_cases h : A = 0 ∨ B = 0 ∨ (A % 2 = 0 ∧ B % 2 = 0)
  · exact .inl (gcdO_none h)
  · refine .inr ⟨_, _, ?_, gcdO_some h⟩
    have h1 : Nat.gcd A B ≤ A := Nat.gcd_le_left B (by omega)
    exact Nat.le_trans (by have := blen_mono h1; unfold nb; omega) hA.nb

set_option maxRecDepth 100000 in
set_option maxHeartbeats 2000000 in
theorem iGCD_bs {a a' : Option Addr} {n c n' c' A B : Nat} {w : World} (hn : n ≤ 100000) (hn' : n' ≤ 100000) (hA : Bs w a n c A) (hB : Bs w a' n' c' B) :
    Calls Try.prog 46 #[.slice a n c, .slice a' n' c'] w (RetOpt w (gcdO A B)) := by
  have z1 := izeroT_bs (by omega) hA
  have z2 := izeroT_bs (by omega) hB
  have o1 := ioddT_bs (by omega) hA
  have o2 := ioddT_bs (by omega) hB
  by_cases hz1 : A = 0
  · rw [decide_eq_true hz1] at z1
    rw [gcdO_none (.inl hz1)]
    replace z1 := Lib.hid z1
    clear hz1 z2 o1 o2 hA hB
    go_enter Try.func46, Try.ntmps46
    go_wp2_with fail
    with_reducible refine z1.out.mono ?_
    rintro e w' ⟨rfl, rfl⟩
    go_wp2_with fail
    go_ret2
    exact ⟨rfl, .refl _ _⟩
  · rw [decide_eq_false hz1] at z1
    replace z1 := Lib.hid z1
    by_cases hz2 : B = 0
    · rw [decide_eq_true hz2] at z2
      rw [gcdO_none (.inr (.inl hz2))]
      replace z2 := Lib.hid z2
      clear hz1 hz2 o1 o2 hA hB
      go_enter Try.func46, Try.ntmps46
      go_wp2_with fail
      with_reducible refine z1.out.mono ?_
      rintro e w' ⟨rfl, rfl⟩
      go_wp2_with fail
      with_reducible refine z2.out.mono ?_
      rintro e w' ⟨rfl, rfl⟩
      go_wp2_with fail
      go_ret2
      exact ⟨rfl, .refl _ _⟩
    · rw [decide_eq_false hz2] at z2
      replace z2 := Lib.hid z2
      by_cases ho1 : A % 2 = 1
      · rw [decide_eq_true ho1] at o1
        rw [gcdO_some (by omega)]
        replace o1 := Lib.hid o1
        have HO : Hid (A % 2 = 1 ∨ B % 2 = 1) := .inl ho1
        clear ho1 o2
        go_enter Try.func46, Try.ntmps46
        go_wp2_with fail
        with_reducible refine z1.out.mono ?_
        rintro e w' ⟨rfl, rfl⟩
        go_wp2_with fail
        with_reducible refine z2.out.mono ?_
        rintro e w' ⟨rfl, rfl⟩
        go_wp2_with fail
        with_reducible refine o1.out.mono ?_
        rintro e w' ⟨rfl, rfl⟩
        go_wp2_with fail
        with_reducible refine (newNat_any w).mono ?_
        rintro e w1 ⟨rfl, hx1, hu1, hzz⟩
        replace hzz : w.heap.size + 2 ≤ w1.heap.size := by omega
        go_wp2_with fail
        with_reducible refine (free_bs hn (hA.keep hu1)).mono ?_
        rintro e w2 ⟨p2, b2, c2, rfl, hx2, hp2, hb2, hu2⟩
        go_wp2_with fail
        with_reducible refine (free_bs hn' ((hB.keep hu1).keep hu2)).mono ?_
        rintro e w3 ⟨p3, b3, c3, rfl, hx3, hp3, hb3, hu3⟩
        go_wp2_with fail
        with_reducible refine (gcdVT_any _ _ _ _ _ _ _ _ _ A _ _ _ _ B w3 ((hx1.keep0 hu2).keep0 hu3) (hx2.keep0 hu3) hx3 (Nat.pos_of_ne_zero hz1) (Nat.pos_of_ne_zero hz2) HO.out).mono ?_
        rintro e w4 ⟨rfl, b4, c4, hx4, hb4, hu4⟩
        go_wp2_with fail
        with_reducible refine (told_any _ _ _ _ _ _ hx4).mono ?_
        rintro e w5 ⟨a5, c5, rfl, hs5, hu5⟩
        go_wp2_with fail
        go_ret2
        have hz2' := hu2.size
        have hz3' := hu3.size
        exact ⟨a5, c5, rfl, .of_nb hs5, (((hu1.trans hu2).trans hu3).then hu4 (fun i hi h => by omega)).trans hu5⟩
      · rw [decide_eq_false ho1] at o1
        replace o1 := Lib.hid o1
        by_cases ho2 : B % 2 = 1
        · rw [decide_eq_true ho2] at o2
          rw [gcdO_some (by omega)]
          replace o2 := Lib.hid o2
          have HO : Hid (A % 2 = 1 ∨ B % 2 = 1) := .inr ho2
          clear ho1 ho2
          go_enter Try.func46, Try.ntmps46
          go_wp2_with fail
          with_reducible refine z1.out.mono ?_
          rintro e w' ⟨rfl, rfl⟩
          go_wp2_with fail
          with_reducible refine z2.out.mono ?_
          rintro e w' ⟨rfl, rfl⟩
          go_wp2_with fail
          with_reducible refine o1.out.mono ?_
          rintro e w' ⟨rfl, rfl⟩
          go_wp2_with fail
          with_reducible refine o2.out.mono ?_
          rintro e w' ⟨rfl, rfl⟩
          go_wp2_with fail
          with_reducible refine (newNat_any w).mono ?_
          rintro e w1 ⟨rfl, hx1, hu1, hzz⟩
          replace hzz : w.heap.size + 2 ≤ w1.heap.size := by omega
          go_wp2_with fail
          with_reducible refine (free_bs hn (hA.keep hu1)).mono ?_
          rintro e w2 ⟨p2, b2, c2, rfl, hx2, hp2, hb2, hu2⟩
          go_wp2_with fail
          with_reducible refine (free_bs hn' ((hB.keep hu1).keep hu2)).mono ?_
          rintro e w3 ⟨p3, b3, c3, rfl, hx3, hp3, hb3, hu3⟩
          go_wp2_with fail
          with_reducible refine (gcdVT_any _ _ _ _ _ _ _ _ _ A _ _ _ _ B w3 ((hx1.keep0 hu2).keep0 hu3) (hx2.keep0 hu3) hx3 (Nat.pos_of_ne_zero hz1) (Nat.pos_of_ne_zero hz2) HO.out).mono ?_
          rintro e w4 ⟨rfl, b4, c4, hx4, hb4, hu4⟩
          go_wp2_with fail
          with_reducible refine (told_any _ _ _ _ _ _ hx4).mono ?_
          rintro e w5 ⟨a5, c5, rfl, hs5, hu5⟩
          go_wp2_with fail
          go_ret2
          have hz2' := hu2.size
          have hz3' := hu3.size
          exact ⟨a5, c5, rfl, .of_nb hs5, (((hu1.trans hu2).trans hu3).then hu4 (fun i hi h => by omega)).trans hu5⟩
        · rw [decide_eq_false ho2] at o2
          rw [gcdO_none (by omega)]
          replace o2 := Lib.hid o2
          clear ho1 ho2 hz1 hz2 hA hB
          go_enter Try.func46, Try.ntmps46
          go_wp2_with fail
          with_reducible refine z1.out.mono ?_
          rintro e w' ⟨rfl, rfl⟩
          go_wp2_with fail
          with_reducible refine z2.out.mono ?_
          rintro e w' ⟨rfl, rfl⟩
          go_wp2_with fail
          with_reducible refine o1.out.mono ?_
          rintro e w' ⟨rfl, rfl⟩
          go_wp2_with fail
          with_reducible refine o2.out.mono ?_
          rintro e w' ⟨rfl, rfl⟩
          go_wp2_with fail
          go_ret2
          exact ⟨rfl, .refl _ _⟩

end Go.Proofs.Ytpojonfopoobpaa
