/-
  Contracts: the Montgomery multiplication by what its numbers stand for; montgomeryRepresentation, montgomeryReduction; SubOne, IsMinusOne, SetOverflowingBytes; extendedGCD's errors, InverseVarTime.
-/
import Derived.Test.YtpojonfopoobpaaImpA
import Derived.Test.YtpojonfopoobpaaSpecL
namespace Go.Proofs.Ytpojonfopoobpaa
open Go.RowKit

theorem newNat_at (w : World) (q z : Nat) (hq : q = w.heap.size + 1) (hz : z = w.heap.size) :
    Calls Try.prog 59 #[] w fun e w' => e = .returned (.pointer (some ⟨q, 0, none⟩)) ∧ NatAt w' q z 32 0 0 ∧ Upd0 w w' ∧ Hid (w'.heap.size = w.heap.size + 2) := by
  subst hq hz
  exact newNat_any w
/-- Both numbers stand for others. -/
theorem montMM {p b c nx Z pa ba ca pb bb cb s mp n M x y : Nat} {w : World} (hx : NatAt w p b c nx Z) (ha : NatAt w pa ba ca n (x * W64 ^ n % M)) (hb : NatAt w pb bb cb n (y * W64 ^ n % M)) (hm : ModAt w s mp n M) (ho : M % 2 = 1) (hp : s ≤ p) (hbs : s ≤ b) :
    Calls Try.prog 91 #[.pointer (some ⟨p, 0, none⟩), .pointer (some ⟨pa, 0, none⟩), .pointer (some ⟨pb, 0, none⟩), .pointer (some ⟨mp, 0, none⟩)] w fun e w' => e = .returned (.pointer (some ⟨p, 0, none⟩)) ∧ Grown w p b n (x * y * W64 ^ n % M) w' := by
  obtain ⟨q, bm, cm, hmn, hq, hbm⟩ := hm.ex
  obtain ⟨k, pr, br, cr, hk1, hk2, _, _, _, _⟩ := hm.mont ho
  have hmp := hm.hp
  have h1 := hm.h1
  have hpos : 0 < M := by omega
  have key := mont_any n p b c nx Z pa ba ca _ pb bb cb _ mp q bm cm M k w hm.hn2 hm.npos hx ha hb hmn hk1 hk2 hpos (by omega) (by omega) (by omega) (by omega) (by omega) (by omega)
  rw [mmN_mont (a := x) (b := y) hk2 ho (Nat.mod_lt _ hpos) hb.lt (Nat.mod_mod _ _) (Nat.mod_mod _ _)] at key
  exact key
/-- The first stands for another number, the second for itself. -/
theorem montMP {p b c nx Z pa ba ca pb bb cb s mp n M x y : Nat} {w : World} (hx : NatAt w p b c nx Z) (ha : NatAt w pa ba ca n (x * W64 ^ n % M)) (hb : NatAt w pb bb cb n y) (hm : ModAt w s mp n M) (ho : M % 2 = 1) (hp : s ≤ p) (hbs : s ≤ b) :
    Calls Try.prog 91 #[.pointer (some ⟨p, 0, none⟩), .pointer (some ⟨pa, 0, none⟩), .pointer (some ⟨pb, 0, none⟩), .pointer (some ⟨mp, 0, none⟩)] w fun e w' => e = .returned (.pointer (some ⟨p, 0, none⟩)) ∧ Grown w p b n (x * y % M) w' := by
  obtain ⟨q, bm, cm, hmn, hq, hbm⟩ := hm.ex
  obtain ⟨k, pr, br, cr, hk1, hk2, _, _, _, _⟩ := hm.mont ho
  have hmp := hm.hp
  have h1 := hm.h1
  have hpos : 0 < M := by omega
  have key := mont_any n p b c nx Z pa ba ca _ pb bb cb _ mp q bm cm M k w hm.hn2 hm.npos hx ha hb hmn hk1 hk2 hpos (by omega) (by omega) (by omega) (by omega) (by omega) (by omega)
  rw [mmN_plain (a := x) (b := y) hk2 ho (Nat.mod_lt _ hpos) hb.lt (Nat.mod_mod _ _) rfl] at key
  exact key
/-- Whatever the second is: a number below M comes out. -/
theorem montAny {p b c nx Z pa ba ca A pb bb cb B s mp n M : Nat} {w : World} (hx : NatAt w p b c nx Z) (ha : NatAt w pa ba ca n A) (hA : A < M) (hb : NatAt w pb bb cb n B) (hm : ModAt w s mp n M) (ho : M % 2 = 1) (hp : s ≤ p) (hbs : s ≤ b) :
    Calls Try.prog 91 #[.pointer (some ⟨p, 0, none⟩), .pointer (some ⟨pa, 0, none⟩), .pointer (some ⟨pb, 0, none⟩), .pointer (some ⟨mp, 0, none⟩)] w fun e w' => e = .returned (.pointer (some ⟨p, 0, none⟩)) ∧ ∃ V, V < M ∧ Grown w p b n V w' := by
  obtain ⟨q, bm, cm, hmn, hq, hbm⟩ := hm.ex
  obtain ⟨k, pr, br, cr, hk1, hk2, _, _, _, _⟩ := hm.mont ho
  have hmp := hm.hp
  have h1 := hm.h1
  have hpos : 0 < M := by omega
  exact (mont_any n p b c nx Z pa ba ca A pb bb cb B mp q bm cm M k w hm.hn2 hm.npos hx ha hb hmn hk1 hk2 hpos (by omega) (by omega) (by omega) (by omega) (by omega) (by omega)).mono fun e w' ⟨e1, e2⟩ => ⟨e1, _, (mmN_spec hk2 hA hb.lt).1, e2⟩
set_option maxRecDepth 100000 in
set_option maxHeartbeats 1000000 in
theorem montRep_any {p b c n X s mp M : Nat} {w : World} (hx : NatAt w p b c n X) (hm : ModAt w s mp n M) (ho : M % 2 = 1) (hX : X < M) (hp : s ≤ p) (hb : s ≤ b) :
    Calls Try.prog 90 #[.pointer (some ⟨p, 0, none⟩), .pointer (some ⟨mp, 0, none⟩)] w fun e w' => e = .returned (.pointer (some ⟨p, 0, none⟩)) ∧ Grown w p b n (X * W64 ^ n % M) w' := by
  obtain ⟨q, bm, cm, hmn, hq, hbm⟩ := hm.ex
  obtain ⟨k, pr, br, cr, hk1, hk2, hr3, hr, hpr, hbr⟩ := hm.mont ho
  have hmp := hm.hp
  have h1 := hm.h1
  have key := mont_any n p b c n X p b c X pr br cr _ mp q bm cm M k w hm.hn2 hm.npos hx hx hr hmn hk1 hk2 (by omega) (by omega) (by omega) (by omega) (by omega) (by omega) (by omega)
  rw [mmN_in hk2 ho hX (Nat.le_of_lt hm.lt)] at key
  replace key := Lib.hid key
  clear hk2 ho hX hk1
  go_enter Try.func90, Try.ntmps90
  go_wp2_with fail
  with_reducible refine key.out.mono ?_
  rintro e w1 ⟨rfl, hg⟩
  go_wp2_with fail
  go_ret
  exact ⟨rfl, hg⟩
set_option maxRecDepth 100000 in
set_option maxHeartbeats 1000000 in
theorem montRed_any {p b c n s mp M x : Nat} {w : World} (hx : NatAt w p b c n (x * W64 ^ n % M)) (hm : ModAt w s mp n M) (ho : M % 2 = 1) (hp : s ≤ p) (hb : s ≤ b) :
    Calls Try.prog 97 #[.pointer (some ⟨p, 0, none⟩), .pointer (some ⟨mp, 0, none⟩)] w fun e w' => e = .returned (.pointer (some ⟨p, 0, none⟩)) ∧ Grown w p b n (x % M) w' := by
  obtain ⟨q, bm, cm, hmn, hq, hbm⟩ := hm.ex
  have hmp := hm.hp
  have hms := hm.hs
  have hnp := hm.npos
  have hnp' : (0 : Int) < (n : Int) := by omega
  have HO := Lib.hid ho
  have hlp := hx.hp
  have hlb := hx.hb
  clear ho
  go_enter Try.func97, Try.ntmps97
  go_wp2_with fail
  with_reducible refine (newNat_any w).mono ?_
  rintro e w1 ⟨rfl, hx1, hu1, hz1⟩
  replace hz1 : w.heap.size + 2 ≤ w1.heap.size := by omega
  go_wp2_with fail
  with_reducible refine (expandFor_any (w.heap.size + 1) w.heap.size 32 0 0 mp q bm cm n M w1 hx1 (hmn.keep0 hu1) (Nat.zero_le _)).mono ?_
  rintro e w2 ⟨rfl, b2, c2, hx2, hb2, hu2⟩
  obtain ⟨p2, Hp⟩ : ∃ p2, Hid (p2 = w.heap.size + 1) := ⟨_, rfl⟩
  rw [← Hp.out] at hx2 ⊢
  have hp2 : w.heap.size ≤ p2 := by rw [Hp.out]; omega
  have hb2' : w.heap.size ≤ b2 := by rcases hb2 with h | h <;> omega
  have hu02 : Upd0 w w2 := hu1.then hu2 (fun i hi h => by omega)
  clear hx1 hu1 hz1 hb2 hu2 Hp
  have cD0 := hx2.hd
  have cD1 := hx2.own.cell 0 hnp
  have cD2 := hx2.own.free 0 hnp
  have hone := hx2.setLow hnp 1 (by omega)
  have hu3 : Upd0 w (w2.setCell ⟨b2, 0, none⟩ (.int .u64 ((1 : Nat) : Int))) := hu02.setCell _ _ (fun h => by exact absurd h (Nat.not_lt.2 hb2'))
  go_wp2_with fail
  generalize w2.setCell ⟨b2, 0, none⟩ (.int .u64 1) = w3 at *
  clear cD0 cD1 cD2 hx2 hu02
  have key := montMP (hx.keep0 hu3) (hx.keep0 hu3) hone (hm.keep0 hu3) HO.out hp hb
  rw [Nat.mul_one] at key
  replace key := Lib.hid key
  go_wp2_with fail
  with_reducible refine key.out.mono ?_
  rintro e w4 ⟨rfl, b4, c4, hx4, hb4, hu4⟩
  go_wp2_with fail
  go_ret
  have hz3 := hu3.size
  exact ⟨rfl, b4, c4, hx4, by rcases hb4 with h | h; exact .inl h; exact .inr (by omega), (Upd.mono (T := fun k => k = p ∨ k = b) hu3 (fun _ _ h => h.elim)).trans hu4⟩
set_option maxRecDepth 100000 in
set_option maxHeartbeats 1000000 in
theorem subOne_any {p b c n X s mp M : Nat} {w : World} (hx : NatAt w p b c n X) (hm : ModAt w s mp n M) (_hp : s ≤ p) (hb : s ≤ b) :
    Calls Try.prog 88 #[.pointer (some ⟨p, 0, none⟩), .pointer (some ⟨mp, 0, none⟩)] w fun e w' => e = .returned (.pointer (some ⟨p, 0, none⟩)) ∧ NatAt w' p b c n (mdN X 1 M) ∧ Upd (fun k => k = b) w w' := by
  obtain ⟨q, bm, cm, hmn, hq, hbm⟩ := hm.ex
  have hmp := hm.hp
  have hms := hm.hs
  have hnp := hm.npos
  have h1 := hm.h1
  have hnp' : (0 : Int) < (n : Int) := by omega
  have hlp := hx.hp
  have hlb := hx.hb
  go_enter Try.func88, Try.ntmps88
  go_wp2_with fail
  with_reducible refine (newNat_any w).mono ?_
  rintro e w1 ⟨rfl, hx1, hu1, hz1⟩
  replace hz1 : w.heap.size + 2 ≤ w1.heap.size := by omega
  go_wp2_with fail
  with_reducible refine (expandFor_any (w.heap.size + 1) w.heap.size 32 0 0 mp q bm cm n M w1 hx1 (hmn.keep0 hu1) (Nat.zero_le _)).mono ?_
  rintro e w2 ⟨rfl, b2, c2, hx2, hb2, hu2⟩
  obtain ⟨p2, Hp⟩ : ∃ p2, Hid (p2 = w.heap.size + 1) := ⟨_, rfl⟩
  rw [← Hp.out] at hx2 ⊢
  have hp2 : w.heap.size ≤ p2 := by rw [Hp.out]; omega
  have hb2' : w.heap.size ≤ b2 := by rcases hb2 with h | h <;> omega
  have hu02 : Upd0 w w2 := hu1.then hu2 (fun i hi h => by omega)
  clear hx1 hu1 hz1 hb2 hu2 Hp
  have cD0 := hx2.hd
  have cD1 := hx2.own.cell 0 hnp
  have cD2 := hx2.own.free 0 hnp
  have hone := hx2.setLow hnp 1 (by omega)
  have hu3 : Upd0 w (w2.setCell ⟨b2, 0, none⟩ (.int .u64 ((1 : Nat) : Int))) := hu02.setCell _ _ (fun h => by exact absurd h (Nat.not_lt.2 hb2'))
  go_wp2_with fail
  generalize w2.setCell ⟨b2, 0, none⟩ (.int .u64 1) = w3 at *
  clear cD0 cD1 cD2 hx2 hu02
  have key := Lib.hid (natSub_any p b c n X p2 b2 c2 1 mp q bm cm M w3 (hx.keep0 hu3) hone (hmn.keep0 hu3) (fun h => by omega) (by omega) (by omega) (by omega) (by omega))
  go_wp2_with fail
  with_reducible refine key.out.mono ?_
  rintro e w4 ⟨rfl, hx4, hu4⟩
  go_wp2_with fail
  go_ret
  exact ⟨rfl, hx4, (Upd.mono (T := fun k => k = b) hu3 (fun _ _ h => h.elim)).trans hu4⟩
set_option maxRecDepth 100000 in
set_option maxHeartbeats 1000000 in
theorem extGCD_err {pa ba ca na a pm bm cm nm m : Nat} {w : World} (hxa : NatAt w pa ba ca na a) (hxm : NatAt w pm bm cm nm m) (hm0 : 0 < m) (h : a = 0 ∨ (a % 2 = 0 ∧ m % 2 = 0)) :
    Calls Try.prog 98 #[.pointer (some ⟨pa, 0, none⟩), .pointer (some ⟨pm, 0, none⟩)] w fun e w' => (∃ t x, e = .returned (.tuple #[.pointer none, .pointer none, .iface t x])) ∧ Upd0 w w' := by
  by_cases h0 : a = 0
  · subst h0
    have z1 := Lib.hid (isZero_yes hxa)
    clear h
    go_enter Try.func98, Try.ntmps98
    go_wp2_with fail
    with_reducible refine z1.out.mono ?_
    rintro e w' ⟨rfl, rfl⟩
    go_wp2_with fail
    with_reducible refine (errNew_any _ _).mono ?_
    rintro e w2 ⟨⟨t, x, rfl⟩, hu2⟩
    go_wp2_with fail
    go_ret3
    exact ⟨⟨t, x, rfl⟩, hu2⟩
  · have z1 := Lib.hid (isZero_no hxa (by omega))
    have z2 := Lib.hid (isZero_no hxm (by omega))
    have o1 := Lib.hid (isOdd_no hxa (by omega))
    have o2 := Lib.hid (isOdd_no hxm (by omega))
    clear h h0
    go_enter Try.func98, Try.ntmps98
    go_wp2_with fail
    with_reducible refine z1.out.mono ?_
    rintro e w' ⟨rfl, rfl⟩
    go_wp2_with fail
    with_reducible refine z2.out.mono ?_
    rintro e w' ⟨rfl, rfl⟩
    go_wp2_with fail
    with_reducible refine o1.out.mono ?_
    rintro e w' ⟨rfl, rfl⟩
    go_wp2_with fail
    with_reducible refine o2.out.mono ?_
    rintro e w' ⟨rfl, rfl⟩
    go_wp2_with fail
    with_reducible refine (errNew_any _ _).mono ?_
    rintro e w2 ⟨⟨t, x, rfl⟩, hu2⟩
    go_wp2_with fail
    go_ret3
    exact ⟨⟨t, x, rfl⟩, hu2⟩
set_option maxRecDepth 100000 in
set_option maxHeartbeats 1000000 in
theorem natInv_yes {p b c nx Z pa ba ca n a s mp M : Nat} {w : World} (hx : NatAt w p b c nx Z) (ha : NatAt w pa ba ca n a) (hm : ModAt w s mp n M) (haM : a < M) (hg : Nat.gcd a M = 1) :
    Calls Try.prog 60 #[.pointer (some ⟨p, 0, none⟩), .pointer (some ⟨pa, 0, none⟩), .pointer (some ⟨mp, 0, none⟩)] w fun e w' => e = .returned (.tuple #[.pointer (some ⟨p, 0, none⟩), .bool true]) ∧ Grown w p b n (invN a M) w' := by
  obtain ⟨q, bm, cm, hmn, hq, hbm⟩ := hm.ex
  have h1 := hm.h1
  have hmc := hmn.hm
  have hlp := hx.hp
  have hlb := hx.hb
  have ha0 : 0 < a := by
    rcases Nat.eq_zero_or_pos a with h | h
    · subst h; rw [Nat.gcd_zero_left] at hg; omega
    · exact h
  have hod : a % 2 = 1 ∨ M % 2 = 1 := by
    rcases Nat.mod_two_eq_zero_or_one a with h | h
    · rcases Nat.mod_two_eq_zero_or_one M with h' | h'
      · have h2 : 2 ∣ Nat.gcd a M := Nat.dvd_gcd (Nat.dvd_of_mod_eq_zero h) (Nat.dvd_of_mod_eq_zero h')
        rw [hg] at h2
        have := Nat.le_of_dvd (by omega) h2
        omega
      · exact .inr h'
    · exact .inl h
  have k1 := extGCD_any pa ba ca n a q bm cm n M w ha hmn.nat ha0 (by omega) hod
  rw [Nat.max_self] at k1
  replace k1 := Lib.hid k1
  have HG := Lib.hid hg
  clear hod ha0 hg
  go_enter Try.func60, Try.ntmps60
  go_wp2_with fail
  with_reducible refine k1.out.mono ?_
  rintro e w1 ⟨pu, bu, cu, pA, bA, cA, A, rfl, hu, hA, hAA, hg1, hg2, hg3, hg4, hu1⟩
  rw [HG.out] at hu
  have HV : Hid (A = invN a M) := by
    have := hAA haM
    rw [HG.out] at this
    exact IsInv.invN ⟨this.1, this.2⟩
  clear hAA
  have k2 := Lib.hid (isOne_yes hu)
  go_wp2_with fail
  with_reducible refine k2.out.mono ?_
  rintro e w' ⟨rfl, rfl⟩
  have k3 := Lib.hid (set_any p b c nx Z pA bA cA n A w1 (hx.keep0 hu1) hA (by omega) (by omega) (by omega) (by omega))
  go_wp2_with fail
  with_reducible refine k3.out.mono ?_
  rintro e w2 ⟨rfl, b2, c2, hx2, hb2, hu2⟩
  rw [HV.out] at hx2
  have hz1 := hu1.size
  go_wp2_with fail
  go_ret2
  exact ⟨rfl, b2, c2, hx2, by rcases hb2 with h | h; exact .inl h; exact .inr (by omega), (Upd.mono (T := fun k => k = p ∨ k = b) hu1 (fun _ _ h => h.elim)).trans hu2⟩
set_option maxRecDepth 100000 in
set_option maxHeartbeats 1000000 in
theorem natInv_no {p pa ba ca n a s mp M : Nat} {w : World} (ha : NatAt w pa ba ca n a) (hm : ModAt w s mp n M) (hg : ¬ Nat.gcd a M = 1) :
    Calls Try.prog 60 #[.pointer (some ⟨p, 0, none⟩), .pointer (some ⟨pa, 0, none⟩), .pointer (some ⟨mp, 0, none⟩)] w fun e w' => e = .returned (.tuple #[.pointer (some ⟨p, 0, none⟩), .bool false]) ∧ Upd0 w w' := by
  obtain ⟨q, bm, cm, hmn, hq, hbm⟩ := hm.ex
  have h1 := hm.h1
  have hmc := hmn.hm
  by_cases he : a = 0 ∨ (a % 2 = 0 ∧ M % 2 = 0)
  · have k1 := Lib.hid (extGCD_err ha hmn.nat (by omega) he)
    clear he hg
    go_enter Try.func60, Try.ntmps60
    go_wp2_with fail
    with_reducible refine k1.out.mono ?_
    rintro e w1 ⟨⟨t, x, rfl⟩, hu1⟩
    go_wp2_with fail
    go_ret2
    exact ⟨rfl, hu1⟩
  · have k1 := Lib.hid (extGCD_any pa ba ca n a q bm cm n M w ha hmn.nat (by omega) (by omega) (by omega))
    have HG := Lib.hid hg
    clear he hg
    go_enter Try.func60, Try.ntmps60
    go_wp2_with fail
    with_reducible refine k1.out.mono ?_
    rintro e w1 ⟨pu, bu, cu, pA, bA, cA, A, rfl, hu, hA, hAA, hg1, hg2, hg3, hg4, hu1⟩
    have k2 := Lib.hid (isOne_no hu HG.out)
    clear hAA
    go_wp2_with fail
    with_reducible refine k2.out.mono ?_
    rintro e w' ⟨rfl, rfl⟩
    go_wp2_with fail
    go_ret2
    exact ⟨rfl, hu1⟩
end Go.Proofs.Ytpojonfopoobpaa
