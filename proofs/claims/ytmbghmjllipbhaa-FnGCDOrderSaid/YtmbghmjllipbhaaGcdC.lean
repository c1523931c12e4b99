/-
  Contracts: impl.GCD, spec.divisor, spec.GCD.
-/
import Derived.Test.YtmbghmjllipbhaaGcdB
namespace Go.Proofs.Ytmbghmjllipbhaa
open Go.RowKit

/-- What GCD gives: nothing where one number is 0 or both are even. -/
def gcdO (A B : Nat) : Option (Nat × Nat) := if A = 0 ∨ B = 0 ∨ (A % 2 = 0 ∧ B % 2 = 0) then none else some (nb (Nat.gcd A B), Nat.gcd A B)
theorem gcdO_none {A B : Nat} (h : A = 0 ∨ B = 0 ∨ (A % 2 = 0 ∧ B % 2 = 0)) : gcdO A B = none := if_pos h
theorem gcdO_some {A B : Nat} (h : ¬ (A = 0 ∨ B = 0 ∨ (A % 2 = 0 ∧ B % 2 = 0))) : gcdO A B = some (nb (Nat.gcd A B), Nat.gcd A B) := if_neg h
theorem gcdO_cases {w : World} {a a' : Option Addr} {n c n' c' A B : Nat} (hA : Bs w a n c A) (_hB : Bs w a' n' c' B) : Hid (gcdO A B = none) ∨ ∃ S N, S ≤ n ∧ Hid (gcdO A B = some (S, N)) := by
  by_cases h : A = 0 ∨ B = 0 ∨ (A % 2 = 0 ∧ B % 2 = 0)
  · exact .inl (gcdO_none h)
  · refine .inr ⟨_, _, ?_, gcdO_some h⟩
    have h1 : Nat.gcd A B ≤ A := Nat.gcd_le_left B (by omega)
    exact Nat.le_trans (by have := blen_mono h1; unfold nb; omega) hA.nb

set_option maxRecDepth 100000 in
set_option maxHeartbeats 2000000 in
theorem iGCD_bs {a a' : Option Addr} {n c n' c' A B : Nat} {w : World} (hn : n ≤ 100000) (hn' : n' ≤ 100000) (hA : Bs w a n c A) (hB : Bs w a' n' c' B) :
    Calls Try.prog 31 #[.slice a n c, .slice a' n' c'] w (RetOpt w (gcdO A B)) := by
  have z1 := iIsZero_bs (by omega) hA
  have z2 := iIsZero_bs (by omega) hB
  have o1 := iIsOdd_bs (by omega) hA
  have o2 := iIsOdd_bs (by omega) hB
  by_cases hz1 : A = 0
  · rw [decide_eq_true hz1] at z1
    rw [gcdO_none (.inl hz1)]
    replace z1 := Lib.hid z1
    clear hz1 z2 o1 o2 hA hB
    go_enter Try.func31, Try.ntmps31
    go_wp2_with fail
    with_reducible refine z1.out.mono ?_
    rintro e w' ⟨rfl, rfl⟩
    go_wp2_with fail
    go_ret2
    exact ⟨rfl, .refl _ _⟩
  · rw [decide_eq_false hz1] at z1
    replace z1 := Lib.hid z1
    by_cases hz2 : B = 0
    · rw [decide_eq_true hz2] at z2
      rw [gcdO_none (.inr (.inl hz2))]
      replace z2 := Lib.hid z2
      clear hz1 hz2 o1 o2 hA hB
      go_enter Try.func31, Try.ntmps31
      go_wp2_with fail
      with_reducible refine z1.out.mono ?_
      rintro e w' ⟨rfl, rfl⟩
      go_wp2_with fail
      with_reducible refine z2.out.mono ?_
      rintro e w' ⟨rfl, rfl⟩
      go_wp2_with fail
      go_ret2
      exact ⟨rfl, .refl _ _⟩
    · rw [decide_eq_false hz2] at z2
      replace z2 := Lib.hid z2
      by_cases ho1 : A % 2 = 1
      · rw [decide_eq_true ho1] at o1
        rw [gcdO_some (by omega)]
        replace o1 := Lib.hid o1
        have HO : Hid (A % 2 = 1 ∨ B % 2 = 1) := .inl ho1
        clear ho1 o2
        go_enter Try.func31, Try.ntmps31
        go_wp2_with fail
        with_reducible refine z1.out.mono ?_
        rintro e w' ⟨rfl, rfl⟩
        go_wp2_with fail
        with_reducible refine z2.out.mono ?_
        rintro e w' ⟨rfl, rfl⟩
        go_wp2_with fail
        with_reducible refine o1.out.mono ?_
        rintro e w' ⟨rfl, rfl⟩
        go_wp2_with fail
        with_reducible refine (newNat_any w).mono ?_
        rintro e w1 ⟨rfl, hx1, hu1, hzz⟩
        replace hzz : w.heap.size + 2 ≤ w1.heap.size := by omega
        go_wp2_with fail
        with_reducible refine (free_bs hn (hA.keep hu1)).mono ?_
        rintro e w2 ⟨p2, b2, c2, rfl, hx2, hp2, hb2, hu2⟩
        go_wp2_with fail
        with_reducible refine (free_bs hn' ((hB.keep hu1).keep hu2)).mono ?_
        rintro e w3 ⟨p3, b3, c3, rfl, hx3, hp3, hb3, hu3⟩
        go_wp2_with fail
        with_reducible refine (gcdVT_any _ _ _ _ _ _ _ _ _ A _ _ _ _ B w3 ((hx1.keep0 hu2).keep0 hu3) (hx2.keep0 hu3) hx3 (Nat.pos_of_ne_zero hz1) (Nat.pos_of_ne_zero hz2) HO.out).mono ?_
        rintro e w4 ⟨rfl, b4, c4, hx4, hb4, hu4⟩
        go_wp2_with fail
        with_reducible refine (told_any _ _ _ _ _ _ hx4).mono ?_
        rintro e w5 ⟨a5, c5, rfl, hs5, hu5⟩
        go_wp2_with fail
        go_ret2
        have hz2' := hu2.size
        have hz3' := hu3.size
        exact ⟨a5, c5, rfl, .of_nb hs5, (((hu1.trans hu2).trans hu3).then hu4 (fun i hi h => by omega)).trans hu5⟩
      · rw [decide_eq_false ho1] at o1
        replace o1 := Lib.hid o1
        by_cases ho2 : B % 2 = 1
        · rw [decide_eq_true ho2] at o2
          rw [gcdO_some (by omega)]
          replace o2 := Lib.hid o2
          have HO : Hid (A % 2 = 1 ∨ B % 2 = 1) := .inr ho2
          clear ho1 ho2
          go_enter Try.func31, Try.ntmps31
          go_wp2_with fail
          with_reducible refine z1.out.mono ?_
          rintro e w' ⟨rfl, rfl⟩
          go_wp2_with fail
          with_reducible refine z2.out.mono ?_
          rintro e w' ⟨rfl, rfl⟩
          go_wp2_with fail
          with_reducible refine o1.out.mono ?_
          rintro e w' ⟨rfl, rfl⟩
          go_wp2_with fail
          with_reducible refine o2.out.mono ?_
          rintro e w' ⟨rfl, rfl⟩
          go_wp2_with fail
          with_reducible refine (newNat_any w).mono ?_
          rintro e w1 ⟨rfl, hx1, hu1, hzz⟩
          replace hzz : w.heap.size + 2 ≤ w1.heap.size := by omega
          go_wp2_with fail
          with_reducible refine (free_bs hn (hA.keep hu1)).mono ?_
          rintro e w2 ⟨p2, b2, c2, rfl, hx2, hp2, hb2, hu2⟩
          go_wp2_with fail
          with_reducible refine (free_bs hn' ((hB.keep hu1).keep hu2)).mono ?_
          rintro e w3 ⟨p3, b3, c3, rfl, hx3, hp3, hb3, hu3⟩
          go_wp2_with fail
          with_reducible refine (gcdVT_any _ _ _ _ _ _ _ _ _ A _ _ _ _ B w3 ((hx1.keep0 hu2).keep0 hu3) (hx2.keep0 hu3) hx3 (Nat.pos_of_ne_zero hz1) (Nat.pos_of_ne_zero hz2) HO.out).mono ?_
          rintro e w4 ⟨rfl, b4, c4, hx4, hb4, hu4⟩
          go_wp2_with fail
          with_reducible refine (told_any _ _ _ _ _ _ hx4).mono ?_
          rintro e w5 ⟨a5, c5, rfl, hs5, hu5⟩
          go_wp2_with fail
          go_ret2
          have hz2' := hu2.size
          have hz3' := hu3.size
          exact ⟨a5, c5, rfl, .of_nb hs5, (((hu1.trans hu2).trans hu3).then hu4 (fun i hi h => by omega)).trans hu5⟩
        · rw [decide_eq_false ho2] at o2
          rw [gcdO_none (by omega)]
          replace o2 := Lib.hid o2
          clear ho1 ho2 hz1 hz2 hA hB
          go_enter Try.func31, Try.ntmps31
          go_wp2_with fail
          with_reducible refine z1.out.mono ?_
          rintro e w' ⟨rfl, rfl⟩
          go_wp2_with fail
          with_reducible refine z2.out.mono ?_
          rintro e w' ⟨rfl, rfl⟩
          go_wp2_with fail
          with_reducible refine o1.out.mono ?_
          rintro e w' ⟨rfl, rfl⟩
          go_wp2_with fail
          with_reducible refine o2.out.mono ?_
          rintro e w' ⟨rfl, rfl⟩
          go_wp2_with fail
          go_ret2
          exact ⟨rfl, .refl _ _⟩

set_option maxRecDepth 100000 in
set_option maxHeartbeats 1000000 in
theorem divisor_any (a a' : Option Addr) (c c' A B : Nat) (w : World) (hA : nd A ≤ 10000) (hB : nd B ≤ 10000) (hsa : Sl .i64 w a (nd A) c (dg 65536 A)) (hsb : Sl .i64 w a' (nd B) c' (dg 65536 B)) :
    Calls Try.prog 85 #[.slice a (nd A) c, .slice a' (nd B) c'] w (RetNum w (Nat.gcd A B)) := by
  go_enter Try.func85, Try.ntmps85
  go_wp2_with fail
  go_loopg [0, 1] B (fun k s t wr => ∃ (x y : Option Addr) (cx cy X Y : Nat), s = .slice x (nd X) cx ∧ t = .slice y (nd Y) cy ∧ nd X ≤ 10000 ∧ nd Y ≤ 10000 ∧ Y ≤ k ∧ Hid (Nat.gcd X Y = Nat.gcd A B) ∧ Sl .i64 wr x (nd X) cx (dg 65536 X) ∧ Sl .i64 wr y (nd Y) cy (dg 65536 Y) ∧ Upd0 w wr)
  case atStart => exact ⟨a, a', c, c', A, B, rfl, rfl, hA, hB, Nat.le_refl _, rfl, hsa, hsb, .refl _ _⟩
  case round =>
    clear hsa hsb hA hB
    obtain ⟨x, y, cx, cy, X, Y, rfl, rfl, hX, hY, hk, HG, hsx, hsy, hu⟩ := hrel
    by_cases h0 : Y = 0
    · subst h0
      have HE : Hid (X = Nat.gcd A B) := by have := HG.out; rwa [Nat.gcd_zero_right] at this
      have hn0 : nd 0 = 0 := rfl
      go_wp2_with fail
      go_ret
      exact ⟨x, cx, by rw [← HE.out]; rfl, by rw [← HE.out]; exact hsx, hu⟩
    · have hp : 0 < nd Y := nd_pos h0
      have hp' : (0 : Int) < ((nd Y : Nat) : Int) := by omega
      have HR : Hid (nd (X % Y) ≤ 10000) := Nat.le_trans (nd_mono (Nat.le_of_lt (Nat.mod_lt X (by omega)))) hY
      have HM : Hid (X % Y < Y) := Nat.mod_lt X (by omega)
      have HG2 : Hid (Nat.gcd Y (X % Y) = Nat.gcd A B) := by
        show _ = _
        rw [← HG.out, Nat.gcd_comm Y, ← Nat.gcd_rec, Nat.gcd_comm]
      have k1 := quotient_any x y cx cy X Y wr hX hY (by omega) hsx hsy
      replace k1 := Lib.hid k1
      go_wp2_with fail
      with_reducible refine k1.out.mono ?_
      rintro e w2 ⟨a3, c3, a4, c4, rfl, hs3, hs4, hu3⟩
      go_wp2_with fail
      go_roundg (X % Y)
      case measure => have := HM.out; omega
      case rel => exact ⟨y, a4, cy, c4, Y, X % Y, rfl, rfl, hY, HR.out, Nat.le_refl _, HG2, hsy.keep hu3, hs4, hu.trans hu3⟩
set_option maxRecDepth 100000 in
set_option maxHeartbeats 2000000 in
theorem sGCD_bs {a a' : Option Addr} {n c n' c' A B : Nat} {w : World} (hn : n ≤ 10000) (hn' : n' ≤ 10000) (hA : Bs w a n c A) (hB : Bs w a' n' c' B) :
    Calls Try.prog 32 #[.slice a n c, .slice a' n' c'] w (RetOpt w (gcdO A B)) := by
  have hdA := hA.nd
  have hdB := hB.nd
  have hbA := hA.blen
  have hbB := hB.blen
  by_cases hzA : A = 0
  · rw [gcdO_none (.inl hzA)]
    have eA : ((((nd A : Nat)) : Int) == 0) = true := by rw [hzA]; rfl
    clear hzA
    go_enter Try.func32, Try.ntmps32
    go_wp2_with fail
    with_reducible refine (read_bs (by omega) hA).mono ?_
    rintro e w1 ⟨a1, c1, rfl, hs1, hu1⟩
    go_wp2_with fail
    with_reducible refine (read_bs (by omega) (hB.keep hu1)).mono ?_
    rintro e w2 ⟨a2, c2, rfl, hs2, hu2⟩
    go_wp2_with fail
    go_ret2
    exact ⟨rfl, hu1.trans hu2⟩
  · have eA : ((((nd A : Nat)) : Int) == 0) = false := by have := nd_pos hzA; rw [beq_eq_false_iff_ne]; omega
    by_cases hzB : B = 0
    · rw [gcdO_none (.inr (.inl hzB))]
      have eB : ((((nd B : Nat)) : Int) == 0) = true := by rw [hzB]; rfl
      clear hzA hzB
      go_enter Try.func32, Try.ntmps32
      go_wp2_with fail
      with_reducible refine (read_bs (by omega) hA).mono ?_
      rintro e w1 ⟨a1, c1, rfl, hs1, hu1⟩
      go_wp2_with fail
      with_reducible refine (read_bs (by omega) (hB.keep hu1)).mono ?_
      rintro e w2 ⟨a2, c2, rfl, hs2, hu2⟩
      go_wp2_with fail
      go_ret2
      exact ⟨rfl, hu1.trans hu2⟩
    · have eB : ((((nd B : Nat)) : Int) == 0) = false := by have := nd_pos hzB; rw [beq_eq_false_iff_ne]; omega
      have hgb : Nat.gcd A B ≤ A := Nat.gcd_le_left B (Nat.pos_of_ne_zero hzA)
      by_cases ho1 : A % 2 = 0
      · by_cases ho2 : B % 2 = 0
        · rw [gcdO_none (.inr (.inr ⟨ho1, ho2⟩))]
          go_enter Try.func32, Try.ntmps32
          go_wp2_with fail
          with_reducible refine (read_bs (by omega) hA).mono ?_
          rintro e w1 ⟨a1, c1, rfl, hs1, hu1⟩
          go_wp2_with fail
          with_reducible refine (read_bs (by omega) (hB.keep hu1)).mono ?_
          rintro e w2 ⟨a2, c2, rfl, hs2, hu2⟩
          have k1 := even_any a1 c1 A w2 (by omega) (hs1.keep hu2).rd
          have k2 := even_any a2 c2 B w2 (by omega) hs2.rd
          rw [decide_eq_true ho1] at k1
          rw [decide_eq_true ho2] at k2
          replace k1 := Lib.hid k1
          replace k2 := Lib.hid k2
          clear ho1 ho2 hgb
          go_wp2_with fail
          with_reducible refine k1.out.mono ?_
          rintro e w' ⟨rfl, rfl⟩
          go_wp2_with fail
          with_reducible refine k2.out.mono ?_
          rintro e w' ⟨rfl, rfl⟩
          go_wp2_with fail
          go_ret2
          exact ⟨rfl, hu1.trans hu2⟩
        · rw [gcdO_some (by omega)]
          go_enter Try.func32, Try.ntmps32
          go_wp2_with fail
          with_reducible refine (read_bs (by omega) hA).mono ?_
          rintro e w1 ⟨a1, c1, rfl, hs1, hu1⟩
          go_wp2_with fail
          with_reducible refine (read_bs (by omega) (hB.keep hu1)).mono ?_
          rintro e w2 ⟨a2, c2, rfl, hs2, hu2⟩
          have k1 := even_any a1 c1 A w2 (by omega) (hs1.keep hu2).rd
          have k2 := even_any a2 c2 B w2 (by omega) hs2.rd
          rw [decide_eq_true ho1] at k1
          rw [decide_eq_false ho2] at k2
          replace k1 := Lib.hid k1
          replace k2 := Lib.hid k2
          clear ho1 ho2
          go_wp2_with fail
          with_reducible refine k1.out.mono ?_
          rintro e w' ⟨rfl, rfl⟩
          go_wp2_with fail
          with_reducible refine k2.out.mono ?_
          rintro e w' ⟨rfl, rfl⟩
          have HD := Lib.hid (Nat.le_trans (blen_mono hgb) hbA)
          clear hgb
          go_wp2_with fail
          with_reducible refine (divisor_any a1 a2 c1 c2 A B w2 (by omega) (by omega) (hs1.keep hu2) hs2).mono ?_
          rintro e w3 ⟨a3, c3, rfl, hs3, hu3⟩
          go_wp2_with fail
          with_reducible refine (short_any a3 c3 (Nat.gcd A B) w3 (by have := HD.out; omega) hs3.rd).mono ?_
          rintro e w4 ⟨a4, c4, rfl, hs4, hu4⟩
          go_wp2_with fail
          go_ret2
          exact ⟨a4, c4, rfl, .of_nb hs4, ((hu1.trans hu2).trans hu3).trans hu4⟩
      · rw [gcdO_some (by omega)]
        go_enter Try.func32, Try.ntmps32
        go_wp2_with fail
        with_reducible refine (read_bs (by omega) hA).mono ?_
        rintro e w1 ⟨a1, c1, rfl, hs1, hu1⟩
        go_wp2_with fail
        with_reducible refine (read_bs (by omega) (hB.keep hu1)).mono ?_
        rintro e w2 ⟨a2, c2, rfl, hs2, hu2⟩
        have k1 := even_any a1 c1 A w2 (by omega) (hs1.keep hu2).rd
        rw [decide_eq_false ho1] at k1
        replace k1 := Lib.hid k1
        clear ho1
        go_wp2_with fail
        with_reducible refine k1.out.mono ?_
        rintro e w' ⟨rfl, rfl⟩
        have HD := Lib.hid (Nat.le_trans (blen_mono hgb) hbA)
        clear hgb
        go_wp2_with fail
        with_reducible refine (divisor_any a1 a2 c1 c2 A B w2 (by omega) (by omega) (hs1.keep hu2) hs2).mono ?_
        rintro e w3 ⟨a3, c3, rfl, hs3, hu3⟩
        go_wp2_with fail
        with_reducible refine (short_any a3 c3 (Nat.gcd A B) w3 (by have := HD.out; omega) hs3.rd).mono ?_
        rintro e w4 ⟨a4, c4, rfl, hs4, hu4⟩
        go_wp2_with fail
        go_ret2
        exact ⟨a4, c4, rfl, .of_nb hs4, ((hu1.trans hu2).trans hu3).trans hu4⟩
end Go.Proofs.Ytmbghmjllipbhaa
