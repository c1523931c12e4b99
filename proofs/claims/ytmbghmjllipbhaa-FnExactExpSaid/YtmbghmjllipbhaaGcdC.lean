/-
  Contracts: GCDVarTime, impl.isZero, impl.isOdd, impl.GCD, spec.divisor, spec.GCD.
  Contracts: impl.GCD, spec.divisor, spec.GCD.
-/
import Derived.Test.YtmbghmjllipbhaaGcdA
import Derived.Test.YtmbghmjllipbhaaLwBase
import Derived.Test.YtmbghmjllipbhaaSpecF
namespace Go.Proofs.Ytmbghmjllipbhaa
open Go.RowKit

set_option maxRecDepth 100000 in
set_option maxHeartbeats 1000000 in
theorem gcdVT_any (p b c nx X pa ba ca na a pm bm cm nm m : Nat) (w : World) (hx : NatAt w p b c nx X) (hxa : NatAt w pa ba ca na a) (hxm : NatAt w pm bm cm nm m) (ha0 : 0 < a) (hm0 : 0 < m) (hod : a % 2 = 1 ∨ m % 2 = 1) :
    Calls Try.prog 79 #[.pointer (some ⟨p, 0, none⟩), .pointer (some ⟨pa, 0, none⟩), .pointer (some ⟨pm, 0, none⟩)] w fun e w' => e = .returned (.tuple #[.pointer (some ⟨p, 0, none⟩), .nilIface]) ∧ Grown w p b (max na nm) (Nat.gcd a m) w' := by
  have hlp := hx.hp
  have hlb := hx.hb
  have k1 := extGCD_any pa ba ca na a pm bm cm nm m w hxa hxm ha0 hm0 hod
  generalize max na nm = ns at *
  replace k1 := Lib.hid k1
  clear hxa hxm ha0 hm0 hod
  go_enter Try.func79, Try.ntmps79
  go_wp2_with fail
  with_reducible refine k1.out.mono ?_
  rintro e w1 ⟨pu, bu, cu, pA, bA, cA, A, rfl, hu, hA, _, g1, g2, g3, g4, hup⟩
  go_wp2_with fail
  with_reducible refine (set_any p b c nx X pu bu cu ns (Nat.gcd a m) w1 (hx.keep0 hup) hu (by omega) (by omega) (by omega) (by omega)).mono ?_
  rintro e w2 ⟨rfl, b1, c1, hx2, hb2, hu2⟩
  have hz := hup.size
  go_wp2_with fail
  go_ret2
  exact ⟨rfl, b1, c1, hx2, by rcases hb2 with h | h; exact .inl h; exact .inr (by omega), hup.mono (fun _ _ h => h.elim) |>.then hu2 (fun _ _ h => h)⟩

set_option maxHeartbeats 400000 in
theorem isZero1_any (d : Nat) (w : World) (_hd : d < 256) :
    Calls Try.prog 121 #[.int .u8 d] w fun e w' => e = .returned (.bool ((d : Int) != 0)) ∧ w = w' := by
  go_enter Try.func121, Try.ntmps121
  go_wp2
  go_ret
  exact ⟨rfl, rfl⟩
set_option maxRecDepth 100000 in
set_option maxHeartbeats 1000000 in
theorem indexFunc_zero (a : Option Addr) (n c : Nat) (f : Nat → Nat) (w : World) (hn : n ≤ 1048576) (hf : ∀ i, i < n → f i = 0) (hs : Rd .u8 w a n f) :
    Calls Try.prog 157 #[.slice a n c, .func (.func 121) #[] #[]] w fun e w' => e = .returned (.int .i64 (-1)) ∧ w = w' := by
  have HF := Lib.hid hf
  clear hf
  go_enter Try.func157, Try.ntmps157
  go_wp2_with fail
  go_loop [4, 5, 8] (fun r j i => ∃ k : Nat, k ≤ n ∧ i = .int .i64 k) (fun _ _ i => n - (intOf i).toNat)
  case atStart => exact ⟨0, Nat.zero_le _, rfl⟩
  case round =>
    obtain ⟨k, hk, rfl⟩ := hrel
    by_cases hlt : k < n
    · obtain ⟨b, off, rfl, hc⟩ := hs.open (by omega)
      have hcell := hc k hlt
      rw [HF.out k hlt] at hcell
      have k1 : Calls Try.prog 121 #[.int .u8 0] w fun e w' => e = .returned (.bool false) ∧ w = w' := isZero1_any 0 w (by omega)
      replace k1 := Lib.hid k1
      clear hc
      go_wp2_with fail
      with_reducible refine k1.out.mono ?_
      rintro e w' ⟨rfl, rfl⟩
      go_wp2_with fail
      go_round
      case rel => exact ⟨k + 1, by omega, by go_num⟩
      case measure => simp [intOf]; omega
    · go_wp2_with fail
      go_ret
      exact ⟨rfl, rfl⟩
set_option maxRecDepth 100000 in
set_option maxHeartbeats 1000000 in
theorem indexFunc_some (a : Option Addr) (n c q : Nat) (f : Nat → Nat) (w : World) (hn : n ≤ 1048576) (hf : ∀ i, i < n → f i < 256) (hq : q < n) (h0 : f q ≠ 0) (hs : Rd .u8 w a n f) :
    Calls Try.prog 157 #[.slice a n c, .func (.func 121) #[] #[]] w fun e w' => (∃ k : Nat, k < n ∧ e = .returned (.int .i64 k)) ∧ w = w' := by
  have HF := Lib.hid hf
  have H0 := Lib.hid h0
  clear hf h0
  go_enter Try.func157, Try.ntmps157
  go_wp2_with fail
  go_loop [4, 5, 8] (fun r j i => ∃ k : Nat, k ≤ q ∧ i = .int .i64 k) (fun _ _ i => n - (intOf i).toNat)
  case atStart => exact ⟨0, Nat.zero_le _, rfl⟩
  case round =>
    obtain ⟨k, hk, rfl⟩ := hrel
    have hlt : k < n := by omega
    obtain ⟨b, off, d, rfl, hcell, hd, HD⟩ := byte_cell hs HF.out hlt
    have k1 := isZero1_any d w hd
    by_cases hz : d = 0
    · have hkq : k + 1 ≤ q := by
        rcases (show k = q ∨ k + 1 ≤ q by omega) with h | h
        · exact absurd (by rw [← h, ← HD.out]; exact hz) H0.out
        · exact h
      rw [show ((d : Int) != 0) = false by rw [hz]; simp] at k1
      replace k1 := Lib.hid k1
      clear hz
      go_wp2_with fail
      with_reducible refine k1.out.mono ?_
      rintro e w' ⟨rfl, rfl⟩
      go_wp2_with fail
      go_round
      case rel => exact ⟨k + 1, hkq, by go_num⟩
      case measure => simp [intOf]; omega
    · rw [show ((d : Int) != 0) = true by rw [bne_iff_ne]; omega] at k1
      replace k1 := Lib.hid k1
      clear hz
      go_wp2_with fail
      with_reducible refine k1.out.mono ?_
      rintro e w' ⟨rfl, rfl⟩
      go_wp2_with fail
      go_ret
      exact ⟨⟨k, hlt, rfl⟩, rfl⟩
/-- The thin package's test for 0. -/
theorem izeroT_bs {a : Option Addr} {n c N : Nat} {w : World} (hn : n ≤ 1048576) (h : Bs w a n c N) :
    Calls Try.prog 77 #[.slice a n c] w fun e w' => e = .returned (.bool (decide (N = 0))) ∧ w = w' := by
  obtain ⟨f, hf, hs, rfl⟩ := h
  by_cases h0 : be f n = 0
  · have k1 := indexFunc_zero a n c f w hn (be_eq_zero.1 h0) hs.rd
    rw [decide_eq_true h0]
    replace k1 := Lib.hid k1
    clear h0 hs hf
    have k2 : Calls Try.prog 120 #[.slice a n c, .func (.func 121) #[] #[]] w fun e w' => e = .returned (.bool false) ∧ w = w' := by
      go_enter Try.func120, Try.ntmps120
      go_wp2_with fail
      with_reducible refine k1.out.mono ?_
      rintro e w' ⟨rfl, rfl⟩
      go_wp2_with fail
      go_ret
      exact ⟨rfl, rfl⟩
    replace k2 := Lib.hid k2
    go_enter Try.func77, Try.ntmps77
    go_wp2_with fail
    with_reducible refine k2.out.mono ?_
    rintro e w' ⟨rfl, rfl⟩
    go_wp2_with fail
    go_ret
    exact ⟨rfl, rfl⟩
  · obtain ⟨q, hq, hq0⟩ : ∃ q, q < n ∧ f q ≠ 0 := by
      refine Classical.byContradiction fun hx => h0 (be_eq_zero.2 fun i hi => ?_)
      exact Classical.byContradiction fun hz => hx ⟨i, hi, hz⟩
    have k1 := indexFunc_some a n c q f w hn hf hq hq0 hs.rd
    rw [decide_eq_false h0]
    replace k1 := Lib.hid k1
    clear h0 hs hf hq0 hq
    have k2 : Calls Try.prog 120 #[.slice a n c, .func (.func 121) #[] #[]] w fun e w' => e = .returned (.bool true) ∧ w = w' := by
      go_enter Try.func120, Try.ntmps120
      go_wp2_with fail
      with_reducible refine k1.out.mono ?_
      rintro e w' ⟨⟨k, hk, rfl⟩, rfl⟩
      go_wp2_with fail
      go_ret
      exact ⟨rfl, rfl⟩
    replace k2 := Lib.hid k2
    go_enter Try.func77, Try.ntmps77
    go_wp2_with fail
    with_reducible refine k2.out.mono ?_
    rintro e w' ⟨rfl, rfl⟩
    go_wp2_with fail
    go_ret
    exact ⟨rfl, rfl⟩
theorem and_one8 {d : Nat} (hd : d < 256) : bits .and .u8 (d : Int) 1 = ((d % 2 : Nat) : Int) := by
  have h : (BitVec.ofInt 8 (d : Int) &&& BitVec.ofInt 8 1).toNat = d % 2 := by
    rw [BitVec.toNat_and, show (BitVec.ofInt 8 1).toNat = 1 from rfl, BitVec.ofInt_natCast, BitVec.toNat_ofNat, Nat.mod_eq_of_lt hd, Nat.and_one_is_mod]
  show IntKind.u8.wrap ((BitVec.ofInt 8 (d : Int) &&& BitVec.ofInt 8 1).toNat : Int) = _
  rw [h, IntWalk.u8_in _ (by omega)]
theorem be_odd' {f : Nat → Nat} {n : Nat} (h : 0 < n) : be f n % 2 = f (n - 1) % 2 := by
  obtain ⟨m, rfl⟩ : ∃ m, n = m + 1 := ⟨n - 1, by omega⟩
  simp only [be, Nat.add_sub_cancel]; omega
set_option maxRecDepth 100000 in
set_option maxHeartbeats 1000000 in
/-- The thin package's test whether a number is odd. -/
theorem ioddT_bs {a : Option Addr} {n c N : Nat} {w : World} (hn : n ≤ 1048576) (h : Bs w a n c N) :
    Calls Try.prog 78 #[.slice a n c] w fun e w' => e = .returned (.bool (decide (N % 2 = 1))) ∧ w = w' := by
  obtain ⟨f, hf, hs, rfl⟩ := h
  replace hs := hs.rd
  by_cases h0 : n = 0
  · subst h0
    go_enter Try.func78, Try.ntmps78
    go_wp2
    go_ret
    exact ⟨rfl, rfl⟩
  · obtain ⟨m, rfl⟩ : ∃ m, n = m + 1 := ⟨n - 1, by omega⟩
    have HB : Hid (be f (m + 1) % 2 = f m % 2) := be_odd' (n := m + 1) (by omega)
    obtain ⟨b, off, d, rfl, hcell, hd, HD⟩ := byte_cell hs hf (show m < m + 1 by omega)
    clear hs hf
    have e1 := and_one8 hd
    by_cases h2 : d % 2 = 1
    · have HY : Hid (decide (be f (m + 1) % 2 = 1) = true) := decide_eq_true (by rw [HB.out, ← HD.out]; exact h2)
      rw [h2] at e1
      clear h2
      go_enter Try.func78, Try.ntmps78
      go_wp2
      go_ret
      exact ⟨ret_bool HY.out.symm, rfl⟩
    · have HN : Hid (decide (be f (m + 1) % 2 = 1) = false) := decide_eq_false (by rw [HB.out, ← HD.out]; exact h2)
      rw [show d % 2 = 0 by omega] at e1
      clear h2
      go_enter Try.func78, Try.ntmps78
      go_wp2
      go_ret
      exact ⟨ret_bool HN.out.symm, rfl⟩
end Go.Proofs.Ytmbghmjllipbhaa

namespace Go.Proofs.Ytmbghmjllipbhaa
open Go.RowKit

/-- What GCD gives: nothing where one number is 0 or both are even. -/
def gcdO (A B : Nat) : Option (Nat × Nat) := if A = 0 ∨ B = 0 ∨ (A % 2 = 0 ∧ B % 2 = 0) then none else some (nb (Nat.gcd A B), Nat.gcd A B)
theorem gcdO_none {A B : Nat} (h : A = 0 ∨ B = 0 ∨ (A % 2 = 0 ∧ B % 2 = 0)) : gcdO A B = none := if_pos h
theorem gcdO_some {A B : Nat} (h : ¬ (A = 0 ∨ B = 0 ∨ (A % 2 = 0 ∧ B % 2 = 0))) : gcdO A B = some (nb (Nat.gcd A B), Nat.gcd A B) := if_neg h
theorem gcdO_cases {w : World} {a a' : Option Addr} {n c n' c' A B : Nat} (hA : Bs w a n c A) (_hB : Bs w a' n' c' B) : Hid (gcdO A B = none) ∨ ∃ S N, S ≤ n ∧ Hid (gcdO A B = some (S, N)) := by
  by_cases h : A = 0 ∨ B = 0 ∨ (A % 2 = 0 ∧ B % 2 = 0)
  · exact .inl (gcdO_none h)
  · refine .inr ⟨_, _, ?_, gcdO_some h⟩
    have h1 : Nat.gcd A B ≤ A := Nat.gcd_le_left B (by omega)
    exact Nat.le_trans (by have := blen_mono h1; unfold nb; omega) hA.nb

set_option maxRecDepth 100000 in
set_option maxHeartbeats 2000000 in
theorem iGCD_bs {a a' : Option Addr} {n c n' c' A B : Nat} {w : World} (hn : n ≤ 100000) (hn' : n' ≤ 100000) (hA : Bs w a n c A) (hB : Bs w a' n' c' B) :
    Calls Try.prog 31 #[.slice a n c, .slice a' n' c'] w (RetOpt w (gcdO A B)) := by
  have z1 := izeroT_bs (by omega) hA
  have z2 := izeroT_bs (by omega) hB
  have o1 := ioddT_bs (by omega) hA
  have o2 := ioddT_bs (by omega) hB
  by_cases hz1 : A = 0
  · rw [decide_eq_true hz1] at z1
    rw [gcdO_none (.inl hz1)]
    replace z1 := Lib.hid z1
    clear hz1 z2 o1 o2 hA hB
    go_enter Try.func31, Try.ntmps31
    go_wp2_with fail
    with_reducible refine z1.out.mono ?_
    rintro e w' ⟨rfl, rfl⟩
    go_wp2_with fail
    go_ret2
    exact ⟨rfl, .refl _ _⟩
  · rw [decide_eq_false hz1] at z1
    replace z1 := Lib.hid z1
    by_cases hz2 : B = 0
    · rw [decide_eq_true hz2] at z2
      rw [gcdO_none (.inr (.inl hz2))]
      replace z2 := Lib.hid z2
      clear hz1 hz2 o1 o2 hA hB
      go_enter Try.func31, Try.ntmps31
      go_wp2_with fail
      with_reducible refine z1.out.mono ?_
      rintro e w' ⟨rfl, rfl⟩
      go_wp2_with fail
      with_reducible refine z2.out.mono ?_
      rintro e w' ⟨rfl, rfl⟩
      go_wp2_with fail
      go_ret2
      exact ⟨rfl, .refl _ _⟩
    · rw [decide_eq_false hz2] at z2
      replace z2 := Lib.hid z2
      by_cases ho1 : A % 2 = 1
      · rw [decide_eq_true ho1] at o1
        rw [gcdO_some (by omega)]
        replace o1 := Lib.hid o1
        have HO : Hid (A % 2 = 1 ∨ B % 2 = 1) := .inl ho1
        clear ho1 o2
        go_enter Try.func31, Try.ntmps31
        go_wp2_with fail
        with_reducible refine z1.out.mono ?_
        rintro e w' ⟨rfl, rfl⟩
        go_wp2_with fail
        with_reducible refine z2.out.mono ?_
        rintro e w' ⟨rfl, rfl⟩
        go_wp2_with fail
        with_reducible refine o1.out.mono ?_
        rintro e w' ⟨rfl, rfl⟩
        go_wp2_with fail
        with_reducible refine (newNat_any w).mono ?_
        rintro e w1 ⟨rfl, hx1, hu1, hzz⟩
        replace hzz : w.heap.size + 2 ≤ w1.heap.size := by omega
        go_wp2_with fail
        with_reducible refine (free_bs hn (hA.keep hu1)).mono ?_
        rintro e w2 ⟨p2, b2, c2, rfl, hx2, hp2, hb2, hu2⟩
        go_wp2_with fail
        with_reducible refine (free_bs hn' ((hB.keep hu1).keep hu2)).mono ?_
        rintro e w3 ⟨p3, b3, c3, rfl, hx3, hp3, hb3, hu3⟩
        go_wp2_with fail
        with_reducible refine (gcdVT_any _ _ _ _ _ _ _ _ _ A _ _ _ _ B w3 ((hx1.keep0 hu2).keep0 hu3) (hx2.keep0 hu3) hx3 (Nat.pos_of_ne_zero hz1) (Nat.pos_of_ne_zero hz2) HO.out).mono ?_
        rintro e w4 ⟨rfl, b4, c4, hx4, hb4, hu4⟩
        go_wp2_with fail
        with_reducible refine (told_any _ _ _ _ _ _ hx4).mono ?_
        rintro e w5 ⟨a5, c5, rfl, hs5, hu5⟩
        go_wp2_with fail
        go_ret2
        have hz2' := hu2.size
        have hz3' := hu3.size
        exact ⟨a5, c5, rfl, .of_nb hs5, (((hu1.trans hu2).trans hu3).then hu4 (fun i hi h => by omega)).trans hu5⟩
      · rw [decide_eq_false ho1] at o1
        replace o1 := Lib.hid o1
        by_cases ho2 : B % 2 = 1
        · rw [decide_eq_true ho2] at o2
          rw [gcdO_some (by omega)]
          replace o2 := Lib.hid o2
          have HO : Hid (A % 2 = 1 ∨ B % 2 = 1) := .inr ho2
          clear ho1 ho2
          go_enter Try.func31, Try.ntmps31
          go_wp2_with fail
          with_reducible refine z1.out.mono ?_
          rintro e w' ⟨rfl, rfl⟩
          go_wp2_with fail
          with_reducible refine z2.out.mono ?_
          rintro e w' ⟨rfl, rfl⟩
          go_wp2_with fail
          with_reducible refine o1.out.mono ?_
          rintro e w' ⟨rfl, rfl⟩
          go_wp2_with fail
          with_reducible refine o2.out.mono ?_
          rintro e w' ⟨rfl, rfl⟩
          go_wp2_with fail
          with_reducible refine (newNat_any w).mono ?_
          rintro e w1 ⟨rfl, hx1, hu1, hzz⟩
          replace hzz : w.heap.size + 2 ≤ w1.heap.size := by omega
          go_wp2_with fail
          with_reducible refine (free_bs hn (hA.keep hu1)).mono ?_
          rintro e w2 ⟨p2, b2, c2, rfl, hx2, hp2, hb2, hu2⟩
          go_wp2_with fail
          with_reducible refine (free_bs hn' ((hB.keep hu1).keep hu2)).mono ?_
          rintro e w3 ⟨p3, b3, c3, rfl, hx3, hp3, hb3, hu3⟩
          go_wp2_with fail
          with_reducible refine (gcdVT_any _ _ _ _ _ _ _ _ _ A _ _ _ _ B w3 ((hx1.keep0 hu2).keep0 hu3) (hx2.keep0 hu3) hx3 (Nat.pos_of_ne_zero hz1) (Nat.pos_of_ne_zero hz2) HO.out).mono ?_
          rintro e w4 ⟨rfl, b4, c4, hx4, hb4, hu4⟩
          go_wp2_with fail
          with_reducible refine (told_any _ _ _ _ _ _ hx4).mono ?_
          rintro e w5 ⟨a5, c5, rfl, hs5, hu5⟩
          go_wp2_with fail
          go_ret2
          have hz2' := hu2.size
          have hz3' := hu3.size
          exact ⟨a5, c5, rfl, .of_nb hs5, (((hu1.trans hu2).trans hu3).then hu4 (fun i hi h => by omega)).trans hu5⟩
        · rw [decide_eq_false ho2] at o2
          rw [gcdO_none (by omega)]
          replace o2 := Lib.hid o2
          clear ho1 ho2 hz1 hz2 hA hB
          go_enter Try.func31, Try.ntmps31
          go_wp2_with fail
          with_reducible refine z1.out.mono ?_
          rintro e w' ⟨rfl, rfl⟩
          go_wp2_with fail
          with_reducible refine z2.out.mono ?_
          rintro e w' ⟨rfl, rfl⟩
          go_wp2_with fail
          with_reducible refine o1.out.mono ?_
          rintro e w' ⟨rfl, rfl⟩
          go_wp2_with fail
          with_reducible refine o2.out.mono ?_
          rintro e w' ⟨rfl, rfl⟩
          go_wp2_with fail
          go_ret2
          exact ⟨rfl, .refl _ _⟩

set_option maxRecDepth 100000 in
set_option maxHeartbeats 1000000 in
theorem divisor_any (a a' : Option Addr) (c c' A B : Nat) (w : World) (hA : nd A ≤ 10000) (hB : nd B ≤ 10000) (hsa : Sl .i64 w a (nd A) c (dg 65536 A)) (hsb : Sl .i64 w a' (nd B) c' (dg 65536 B)) :
    Calls Try.prog 85 #[.slice a (nd A) c, .slice a' (nd B) c'] w (RetNum w (Nat.gcd A B)) := by
  go_enter Try.func85, Try.ntmps85
  go_wp2_with fail
  go_loopg [0, 1] B (fun k s t wr => ∃ (x y : Option Addr) (cx cy X Y : Nat), s = .slice x (nd X) cx ∧ t = .slice y (nd Y) cy ∧ nd X ≤ 10000 ∧ nd Y ≤ 10000 ∧ Y ≤ k ∧ Hid (Nat.gcd X Y = Nat.gcd A B) ∧ Sl .i64 wr x (nd X) cx (dg 65536 X) ∧ Sl .i64 wr y (nd Y) cy (dg 65536 Y) ∧ Upd0 w wr)
  case atStart => exact ⟨a, a', c, c', A, B, rfl, rfl, hA, hB, Nat.le_refl _, rfl, hsa, hsb, .refl _ _⟩
  case round =>
    clear hsa hsb hA hB
    obtain ⟨x, y, cx, cy, X, Y, rfl, rfl, hX, hY, hk, HG, hsx, hsy, hu⟩ := hrel
    by_cases h0 : Y = 0
    · subst h0
      have HE : Hid (X = Nat.gcd A B) := by have := HG.out; rwa [Nat.gcd_zero_right] at this
      have hn0 : nd 0 = 0 := rfl
      go_wp2_with fail
      go_ret
      exact ⟨x, cx, by rw [← HE.out]; rfl, by rw [← HE.out]; exact hsx, hu⟩
    · have hp : 0 < nd Y := nd_pos h0
      have hp' : (0 : Int) < ((nd Y : Nat) : Int) := by omega
      have HR : Hid (nd (X % Y) ≤ 10000) := Nat.le_trans (nd_mono (Nat.le_of_lt (Nat.mod_lt X (by omega)))) hY
      have HM : Hid (X % Y < Y) := Nat.mod_lt X (by omega)
      have HG2 : Hid (Nat.gcd Y (X % Y) = Nat.gcd A B) := by
        show _ = _
        rw [← HG.out, Nat.gcd_comm Y, ← Nat.gcd_rec, Nat.gcd_comm]
      have k1 := quotient_any x y cx cy X Y wr hX hY (by omega) hsx hsy
      replace k1 := Lib.hid k1
      go_wp2_with fail
      with_reducible refine k1.out.mono ?_
      rintro e w2 ⟨a3, c3, a4, c4, rfl, hs3, hs4, hu3⟩
      go_wp2_with fail
      go_roundg (X % Y)
      case measure => have := HM.out; omega
      case rel => exact ⟨y, a4, cy, c4, Y, X % Y, rfl, rfl, hY, HR.out, Nat.le_refl _, HG2, hsy.keep hu3, hs4, hu.trans hu3⟩
set_option maxRecDepth 100000 in
set_option maxHeartbeats 2000000 in
theorem sGCD_bs {a a' : Option Addr} {n c n' c' A B : Nat} {w : World} (hn : n ≤ 10000) (hn' : n' ≤ 10000) (hA : Bs w a n c A) (hB : Bs w a' n' c' B) :
    Calls Try.prog 32 #[.slice a n c, .slice a' n' c'] w (RetOpt w (gcdO A B)) := by
  have hdA := hA.nd
  have hdB := hB.nd
  have hbA := hA.blen
  have hbB := hB.blen
  by_cases hzA : A = 0
  · rw [gcdO_none (.inl hzA)]
    have eA : ((((nd A : Nat)) : Int) == 0) = true := by rw [hzA]; rfl
    clear hzA
    go_enter Try.func32, Try.ntmps32
    go_wp2_with fail
    with_reducible refine (read_bs (by omega) hA).mono ?_
    rintro e w1 ⟨a1, c1, rfl, hs1, hu1⟩
    go_wp2_with fail
    with_reducible refine (read_bs (by omega) (hB.keep hu1)).mono ?_
    rintro e w2 ⟨a2, c2, rfl, hs2, hu2⟩
    go_wp2_with fail
    go_ret2
    exact ⟨rfl, hu1.trans hu2⟩
  · have eA : ((((nd A : Nat)) : Int) == 0) = false := by have := nd_pos hzA; rw [beq_eq_false_iff_ne]; omega
    by_cases hzB : B = 0
    · rw [gcdO_none (.inr (.inl hzB))]
      have eB : ((((nd B : Nat)) : Int) == 0) = true := by rw [hzB]; rfl
      clear hzA hzB
      go_enter Try.func32, Try.ntmps32
      go_wp2_with fail
      with_reducible refine (read_bs (by omega) hA).mono ?_
      rintro e w1 ⟨a1, c1, rfl, hs1, hu1⟩
      go_wp2_with fail
      with_reducible refine (read_bs (by omega) (hB.keep hu1)).mono ?_
      rintro e w2 ⟨a2, c2, rfl, hs2, hu2⟩
      go_wp2_with fail
      go_ret2
      exact ⟨rfl, hu1.trans hu2⟩
    · have eB : ((((nd B : Nat)) : Int) == 0) = false := by have := nd_pos hzB; rw [beq_eq_false_iff_ne]; omega
      have hgb : Nat.gcd A B ≤ A := Nat.gcd_le_left B (Nat.pos_of_ne_zero hzA)
      by_cases ho1 : A % 2 = 0
      · by_cases ho2 : B % 2 = 0
        · rw [gcdO_none (.inr (.inr ⟨ho1, ho2⟩))]
          go_enter Try.func32, Try.ntmps32
          go_wp2_with fail
          with_reducible refine (read_bs (by omega) hA).mono ?_
          rintro e w1 ⟨a1, c1, rfl, hs1, hu1⟩
          go_wp2_with fail
          with_reducible refine (read_bs (by omega) (hB.keep hu1)).mono ?_
          rintro e w2 ⟨a2, c2, rfl, hs2, hu2⟩
          have k1 := even_any a1 c1 A w2 (by omega) (hs1.keep hu2).rd
          have k2 := even_any a2 c2 B w2 (by omega) hs2.rd
          rw [decide_eq_true ho1] at k1
          rw [decide_eq_true ho2] at k2
          replace k1 := Lib.hid k1
          replace k2 := Lib.hid k2
          clear ho1 ho2 hgb
          go_wp2_with fail
          with_reducible refine k1.out.mono ?_
          rintro e w' ⟨rfl, rfl⟩
          go_wp2_with fail
          with_reducible refine k2.out.mono ?_
          rintro e w' ⟨rfl, rfl⟩
          go_wp2_with fail
          go_ret2
          exact ⟨rfl, hu1.trans hu2⟩
        · rw [gcdO_some (by omega)]
          go_enter Try.func32, Try.ntmps32
          go_wp2_with fail
          with_reducible refine (read_bs (by omega) hA).mono ?_
          rintro e w1 ⟨a1, c1, rfl, hs1, hu1⟩
          go_wp2_with fail
          with_reducible refine (read_bs (by omega) (hB.keep hu1)).mono ?_
          rintro e w2 ⟨a2, c2, rfl, hs2, hu2⟩
          have k1 := even_any a1 c1 A w2 (by omega) (hs1.keep hu2).rd
          have k2 := even_any a2 c2 B w2 (by omega) hs2.rd
          rw [decide_eq_true ho1] at k1
          rw [decide_eq_false ho2] at k2
          replace k1 := Lib.hid k1
          replace k2 := Lib.hid k2
          clear ho1 ho2
          go_wp2_with fail
          with_reducible refine k1.out.mono ?_
          rintro e w' ⟨rfl, rfl⟩
          go_wp2_with fail
          with_reducible refine k2.out.mono ?_
          rintro e w' ⟨rfl, rfl⟩
          have HD := Lib.hid (Nat.le_trans (blen_mono hgb) hbA)
          clear hgb
          go_wp2_with fail
          with_reducible refine (divisor_any a1 a2 c1 c2 A B w2 (by omega) (by omega) (hs1.keep hu2) hs2).mono ?_
          rintro e w3 ⟨a3, c3, rfl, hs3, hu3⟩
          go_wp2_with fail
          with_reducible refine (short_any a3 c3 (Nat.gcd A B) w3 (by have := HD.out; omega) hs3.rd).mono ?_
          rintro e w4 ⟨a4, c4, rfl, hs4, hu4⟩
          go_wp2_with fail
          go_ret2
          exact ⟨a4, c4, rfl, .of_nb hs4, ((hu1.trans hu2).trans hu3).trans hu4⟩
      · rw [gcdO_some (by omega)]
        go_enter Try.func32, Try.ntmps32
        go_wp2_with fail
        with_reducible refine (read_bs (by omega) hA).mono ?_
        rintro e w1 ⟨a1, c1, rfl, hs1, hu1⟩
        go_wp2_with fail
        with_reducible refine (read_bs (by omega) (hB.keep hu1)).mono ?_
        rintro e w2 ⟨a2, c2, rfl, hs2, hu2⟩
        have k1 := even_any a1 c1 A w2 (by omega) (hs1.keep hu2).rd
        rw [decide_eq_false ho1] at k1
        replace k1 := Lib.hid k1
        clear ho1
        go_wp2_with fail
        with_reducible refine k1.out.mono ?_
        rintro e w' ⟨rfl, rfl⟩
        have HD := Lib.hid (Nat.le_trans (blen_mono hgb) hbA)
        clear hgb
        go_wp2_with fail
        with_reducible refine (divisor_any a1 a2 c1 c2 A B w2 (by omega) (by omega) (hs1.keep hu2) hs2).mono ?_
        rintro e w3 ⟨a3, c3, rfl, hs3, hu3⟩
        go_wp2_with fail
        with_reducible refine (short_any a3 c3 (Nat.gcd A B) w3 (by have := HD.out; omega) hs3.rd).mono ?_
        rintro e w4 ⟨a4, c4, rfl, hs4, hu4⟩
        go_wp2_with fail
        go_ret2
        exact ⟨a4, c4, rfl, .of_nb hs4, ((hu1.trans hu2).trans hu3).trans hu4⟩
end Go.Proofs.Ytmbghmjllipbhaa
