/-
  Contracts: the Montgomery multiplication by what its numbers stand for; montgomeryRepresentation, montgomeryReduction; SubOne, IsMinusOne, SetOverflowingBytes; extendedGCD's errors, InverseVarTime.
-/
import Derived.Test.YtiiihhohfgepfaaImpA
import Derived.Test.YtiiihhohfgepfaaSpecL
namespace Go.Proofs.Ytiiihhohfgepfaa
open Go.RowKit

theorem newNat_at (w : World) (q z : Nat) (hq : q = w.heap.size + 1) (hz : z = w.heap.size) :
    Calls Try.prog 82 #[] w fun e w' => e = .returned (.pointer (some ⟨q, 0, none⟩)) ∧ NatAt w' q z 32 0 0 ∧ Upd0 w w' ∧ Hid (w'.heap.size = w.heap.size + 2) := by
  subst hq hz
  exact newNat_any w
/-- Both numbers stand for others. -/
theorem montMM {p b c nx Z pa ba ca pb bb cb s mp n M x y : Nat} {w : World} (hx : NatAt w p b c nx Z) (ha : NatAt w pa ba ca n (x * W64 ^ n % M)) (hb : NatAt w pb bb cb n (y * W64 ^ n % M)) (hm : ModAt w s mp n M) (ho : M % 2 = 1) (hp : s ≤ p) (hbs : s ≤ b) :
    Calls Try.prog 90 #[.pointer (some ⟨p, 0, none⟩), .pointer (some ⟨pa, 0, none⟩), .pointer (some ⟨pb, 0, none⟩), .pointer (some ⟨mp, 0, none⟩)] w fun e w' => e = .returned (.pointer (some ⟨p, 0, none⟩)) ∧ Grown w p b n (x * y * W64 ^ n % M) w' := by
  obtain ⟨q, bm, cm, hmn, hq, hbm⟩ := hm.ex
  obtain ⟨k, pr, br, cr, hk1, hk2, _, _, _, _⟩ := hm.mont ho
  have hmp := hm.hp
  have h1 := hm.h1
  have hpos : 0 < M := by omega
  have key := mont_any n p b c nx Z pa ba ca _ pb bb cb _ mp q bm cm M k w hm.hn2 hm.npos hx ha hb hmn hk1 hk2 hpos (by omega) (by omega) (by omega) (by omega) (by omega) (by omega)
  rw [mmN_mont (a := x) (b := y) hk2 ho (Nat.mod_lt _ hpos) hb.lt (Nat.mod_mod _ _) (Nat.mod_mod _ _)] at key
  exact key
/-- The first stands for another number, the second for itself. -/
theorem montMP {p b c nx Z pa ba ca pb bb cb s mp n M x y : Nat} {w : World} (hx : NatAt w p b c nx Z) (ha : NatAt w pa ba ca n (x * W64 ^ n % M)) (hb : NatAt w pb bb cb n y) (hm : ModAt w s mp n M) (ho : M % 2 = 1) (hp : s ≤ p) (hbs : s ≤ b) :
    Calls Try.prog 90 #[.pointer (some ⟨p, 0, none⟩), .pointer (some ⟨pa, 0, none⟩), .pointer (some ⟨pb, 0, none⟩), .pointer (some ⟨mp, 0, none⟩)] w fun e w' => e = .returned (.pointer (some ⟨p, 0, none⟩)) ∧ Grown w p b n (x * y % M) w' := by
  obtain ⟨q, bm, cm, hmn, hq, hbm⟩ := hm.ex
  obtain ⟨k, pr, br, cr, hk1, hk2, _, _, _, _⟩ := hm.mont ho
  have hmp := hm.hp
  have h1 := hm.h1
  have hpos : 0 < M := by omega
  have key := mont_any n p b c nx Z pa ba ca _ pb bb cb _ mp q bm cm M k w hm.hn2 hm.npos hx ha hb hmn hk1 hk2 hpos (by omega) (by omega) (by omega) (by omega) (by omega) (by omega)
  rw [mmN_plain (a := x) (b := y) hk2 ho (Nat.mod_lt _ hpos) hb.lt (Nat.mod_mod _ _) rfl] at key
  exact key
/-- Whatever the second is: a number below M comes out. -/
theorem montAny {p b c nx Z pa ba ca A pb bb cb B s mp n M : Nat} {w : World} (hx : NatAt w p b c nx Z) (ha : NatAt w pa ba ca n A) (hA : A < M) (hb : NatAt w pb bb cb n B) (hm : ModAt w s mp n M) (ho : M % 2 = 1) (hp : s ≤ p) (hbs : s ≤ b) :
    Calls Try.prog 90 #[.pointer (some ⟨p, 0, none⟩), .pointer (some ⟨pa, 0, none⟩), .pointer (some ⟨pb, 0, none⟩), .pointer (some ⟨mp, 0, none⟩)] w fun e w' => e = .returned (.pointer (some ⟨p, 0, none⟩)) ∧ ∃ V, V < M ∧ Grown w p b n V w' := by
  obtain ⟨q, bm, cm, hmn, hq, hbm⟩ := hm.ex
  obtain ⟨k, pr, br, cr, hk1, hk2, _, _, _, _⟩ := hm.mont ho
  have hmp := hm.hp
  have h1 := hm.h1
  have hpos : 0 < M := by omega
  exact (mont_any n p b c nx Z pa ba ca A pb bb cb B mp q bm cm M k w hm.hn2 hm.npos hx ha hb hmn hk1 hk2 hpos (by omega) (by omega) (by omega) (by omega) (by omega) (by omega)).mono fun e w' ⟨e1, e2⟩ => ⟨e1, _, (mmN_spec hk2 hA hb.lt).1, e2⟩
set_option maxRecDepth 100000 in
set_option maxHeartbeats 1000000 in
theorem montRep_any {p b c n X s mp M : Nat} {w : World} (hx : NatAt w p b c n X) (hm : ModAt w s mp n M) (ho : M % 2 = 1) (hX : X < M) (hp : s ≤ p) (hb : s ≤ b) :
    Calls Try.prog 89 #[.pointer (some ⟨p, 0, none⟩), .pointer (some ⟨mp, 0, none⟩)] w fun e w' => e = .returned (.pointer (some ⟨p, 0, none⟩)) ∧ Grown w p b n (X * W64 ^ n % M) w' := by
  obtain ⟨q, bm, cm, hmn, hq, hbm⟩ := hm.ex
  obtain ⟨k, pr, br, cr, hk1, hk2, hr3, hr, hpr, hbr⟩ := hm.mont ho
  have hmp := hm.hp
  have h1 := hm.h1
  have key := mont_any n p b c n X p b c X pr br cr _ mp q bm cm M k w hm.hn2 hm.npos hx hx hr hmn hk1 hk2 (by omega) (by omega) (by omega) (by omega) (by omega) (by omega) (by omega)
  rw [mmN_in hk2 ho hX (Nat.le_of_lt hm.lt)] at key
  replace key := Lib.hid key
  clear hk2 ho hX hk1
  go_enter Try.func89, Try.ntmps89
  go_wp2_with fail
  with_reducible refine key.out.mono ?_
  rintro e w1 ⟨rfl, hg⟩
  go_wp2_with fail
  go_ret
  exact ⟨rfl, hg⟩
set_option maxRecDepth 100000 in
set_option maxHeartbeats 1000000 in
theorem montRed_any {p b c n s mp M x : Nat} {w : World} (hx : NatAt w p b c n (x * W64 ^ n % M)) (hm : ModAt w s mp n M) (ho : M % 2 = 1) (hp : s ≤ p) (hb : s ≤ b) :
    Calls Try.prog 93 #[.pointer (some ⟨p, 0, none⟩), .pointer (some ⟨mp, 0, none⟩)] w fun e w' => e = .returned (.pointer (some ⟨p, 0, none⟩)) ∧ Grown w p b n (x % M) w' := by
  obtain ⟨q, bm, cm, hmn, hq, hbm⟩ := hm.ex
  have hmp := hm.hp
  have hms := hm.hs
  have hnp := hm.npos
  have hnp' : (0 : Int) < (n : Int) := by omega
  have HO := Lib.hid ho
  have hlp := hx.hp
  have hlb := hx.hb
  clear ho
  go_enter Try.func93, Try.ntmps93
  go_wp2_with fail
  with_reducible refine (newNat_any w).mono ?_
  rintro e w1 ⟨rfl, hx1, hu1, hz1⟩
  replace hz1 : w.heap.size + 2 ≤ w1.heap.size := by omega
  go_wp2_with fail
  with_reducible refine (expandFor_any (w.heap.size + 1) w.heap.size 32 0 0 mp q bm cm n M w1 hx1 (hmn.keep0 hu1) (Nat.zero_le _)).mono ?_
  rintro e w2 ⟨rfl, b2, c2, hx2, hb2, hu2⟩
  obtain ⟨p2, Hp⟩ : ∃ p2, Hid (p2 = w.heap.size + 1) := ⟨_, rfl⟩
  rw [← Hp.out] at hx2 ⊢
  have hp2 : w.heap.size ≤ p2 := by rw [Hp.out]; omega
  have hb2' : w.heap.size ≤ b2 := by rcases hb2 with h | h <;> omega
  have hu02 : Upd0 w w2 := hu1.then hu2 (fun i hi h => by omega)
  clear hx1 hu1 hz1 hb2 hu2 Hp
  have cD0 := hx2.hd
  have cD1 := hx2.own.cell 0 hnp
  have cD2 := hx2.own.free 0 hnp
  have hone := hx2.setLow hnp 1 (by omega)
  have hu3 : Upd0 w (w2.setCell ⟨b2, 0, none⟩ (.int .u64 ((1 : Nat) : Int))) := hu02.setCell _ _ (fun h => by exact absurd h (Nat.not_lt.2 hb2'))
  go_wp2_with fail
  generalize w2.setCell ⟨b2, 0, none⟩ (.int .u64 1) = w3 at *
  clear cD0 cD1 cD2 hx2 hu02
  have key := montMP (hx.keep0 hu3) (hx.keep0 hu3) hone (hm.keep0 hu3) HO.out hp hb
  rw [Nat.mul_one] at key
  replace key := Lib.hid key
  go_wp2_with fail
  with_reducible refine key.out.mono ?_
  rintro e w4 ⟨rfl, b4, c4, hx4, hb4, hu4⟩
  go_wp2_with fail
  go_ret
  have hz3 := hu3.size
  exact ⟨rfl, b4, c4, hx4, by rcases hb4 with h | h; exact .inl h; exact .inr (by omega), (Upd.mono (T := fun k => k = p ∨ k = b) hu3 (fun _ _ h => h.elim)).trans hu4⟩
set_option maxRecDepth 100000 in
set_option maxHeartbeats 1000000 in
theorem subOne_any {p b c n X s mp M : Nat} {w : World} (hx : NatAt w p b c n X) (hm : ModAt w s mp n M) (_hp : s ≤ p) (hb : s ≤ b) :
    Calls Try.prog 56 #[.pointer (some ⟨p, 0, none⟩), .pointer (some ⟨mp, 0, none⟩)] w fun e w' => e = .returned (.pointer (some ⟨p, 0, none⟩)) ∧ NatAt w' p b c n (mdN X 1 M) ∧ Upd (fun k => k = b) w w' := by
  obtain ⟨q, bm, cm, hmn, hq, hbm⟩ := hm.ex
  have hmp := hm.hp
  have hms := hm.hs
  have hnp := hm.npos
  have h1 := hm.h1
  have hnp' : (0 : Int) < (n : Int) := by omega
  have hlp := hx.hp
  have hlb := hx.hb
  go_enter Try.func56, Try.ntmps56
  go_wp2_with fail
  with_reducible refine (newNat_any w).mono ?_
  rintro e w1 ⟨rfl, hx1, hu1, hz1⟩
  replace hz1 : w.heap.size + 2 ≤ w1.heap.size := by omega
  go_wp2_with fail
  with_reducible refine (expandFor_any (w.heap.size + 1) w.heap.size 32 0 0 mp q bm cm n M w1 hx1 (hmn.keep0 hu1) (Nat.zero_le _)).mono ?_
  rintro e w2 ⟨rfl, b2, c2, hx2, hb2, hu2⟩
  obtain ⟨p2, Hp⟩ : ∃ p2, Hid (p2 = w.heap.size + 1) := ⟨_, rfl⟩
  rw [← Hp.out] at hx2 ⊢
  have hp2 : w.heap.size ≤ p2 := by rw [Hp.out]; omega
  have hb2' : w.heap.size ≤ b2 := by rcases hb2 with h | h <;> omega
  have hu02 : Upd0 w w2 := hu1.then hu2 (fun i hi h => by omega)
  clear hx1 hu1 hz1 hb2 hu2 Hp
  have cD0 := hx2.hd
  have cD1 := hx2.own.cell 0 hnp
  have cD2 := hx2.own.free 0 hnp
  have hone := hx2.setLow hnp 1 (by omega)
  have hu3 : Upd0 w (w2.setCell ⟨b2, 0, none⟩ (.int .u64 ((1 : Nat) : Int))) := hu02.setCell _ _ (fun h => by exact absurd h (Nat.not_lt.2 hb2'))
  go_wp2_with fail
  generalize w2.setCell ⟨b2, 0, none⟩ (.int .u64 1) = w3 at *
  clear cD0 cD1 cD2 hx2 hu02
  have key := Lib.hid (natSub_any p b c n X p2 b2 c2 1 mp q bm cm M w3 (hx.keep0 hu3) hone (hmn.keep0 hu3) (fun h => by omega) (by omega) (by omega) (by omega) (by omega))
  go_wp2_with fail
  with_reducible refine key.out.mono ?_
  rintro e w4 ⟨rfl, hx4, hu4⟩
  go_wp2_with fail
  go_ret
  exact ⟨rfl, hx4, (Upd.mono (T := fun k => k = b) hu3 (fun _ _ h => h.elim)).trans hu4⟩
set_option maxRecDepth 100000 in
set_option maxHeartbeats 1000000 in
theorem isMinusOne_any {p b c n X s mp M : Nat} {w : World} (hx : NatAt w p b c n X) (hm : ModAt w s mp n M) :
    Calls Try.prog 57 #[.pointer (some ⟨p, 0, none⟩), .pointer (some ⟨mp, 0, none⟩)] w fun e w' => e = .returned (.int .u64 (eqN (X + 1) M : Nat)) ∧ Upd0 w w' := by
  have h1 := hm.h1
  have hms := hm.hs
  have HV : Hid (mdN M 1 M = M - 1) := by show _ = _; unfold mdN; rw [if_pos (by omega)]
  have HE : Hid (eqN X (M - 1) = eqN (X + 1) M) := by
    show _ = _
    unfold eqN
    by_cases h : X + 1 = M
    · rw [if_pos h, if_pos (by omega)]
    · rw [if_neg h, if_neg (by omega)]
  have hle := eqN_le (X + 1) M
  obtain ⟨v, Hv⟩ : ∃ v, Hid (v = eqN (X + 1) M) := ⟨_, rfl⟩
  rw [← Hv.out] at HE hle ⊢
  go_enter Try.func57, Try.ntmps57
  go_wp2_with fail
  with_reducible refine (modNat_any hm).mono ?_
  rintro e w1 ⟨p1, b1, c1, rfl, hx1, hp1, hb1, hu1⟩
  have k2 := subOne_any hx1 (hm.keep0 hu1) (by omega) (by omega)
  rw [HV.out] at k2
  replace k2 := Lib.hid k2
  go_wp2_with fail
  with_reducible refine k2.out.mono ?_
  rintro e w2 ⟨rfl, hx2, hu2⟩
  have hu12 : Upd0 w w2 := hu1.then hu2 (fun i hi h => by omega)
  have k3 := equal_any p b c n X p1 b1 c1 (M - 1) w2 (hx.keep0 hu12) hx2
  rw [HE.out] at k3
  replace k3 := Lib.hid k3
  go_wp2_with fail
  with_reducible refine k3.out.mono ?_
  rintro e w3 ⟨rfl, kd, rfl⟩
  go_wp2_with fail
  go_ret
  exact ⟨rfl, hu12.drewN kd⟩
end Go.Proofs.Ytiiihhohfgepfaa
