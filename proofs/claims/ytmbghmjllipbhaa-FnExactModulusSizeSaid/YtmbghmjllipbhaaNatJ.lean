/-
  Contracts: Add, Sub, SubOne modulo m.
-/
import Derived.Test.YtmbghmjllipbhaaNatI
namespace Go.Proofs.Ytmbghmjllipbhaa
open Go.RowKit

set_option maxHeartbeats 1000000 in
theorem natAdd_any (p b c n X q b' c' Y mp qm bm cm M : Nat) (w : World) (hx : NatAt w p b c n X) (hy : NatAt w q b' c' n Y) (hm : MNat w mp qm bm cm n M) (hal : b' = b → X = Y) (h1 : mp ≠ b) (h2 : qm ≠ b) (h3 : bm ≠ b) (hT : X + Y < M + W64 ^ n) :
    Calls Try.prog 101 #[.pointer (some ⟨p, 0, none⟩), .pointer (some ⟨q, 0, none⟩), .pointer (some ⟨mp, 0, none⟩)] w fun e w' => e = .returned (.pointer (some ⟨p, 0, none⟩)) ∧ NatAt w' p b c n (redN (X + Y) M) ∧ Upd (fun k => k = b) w w' := by
  have HR := msN_eq hm.nat.lt hT
  have hadd := add_any p b c n X q b' c' Y w hx hy hal
  have hms := fun w1 h h' => maybeSub_any p b c n ((X + Y) % W64 ^ n) (caN X Y n) mp qm bm cm M w1 h h' (caN_le _ _ _)
  rw [caN_all hx.lt hy.lt, HR, ← caN_all hx.lt hy.lt] at hms
  replace hadd := Lib.hid hadd
  replace hms := Lib.hid hms
  go_enter Try.func101, Try.ntmps101
  go_wp2_with fail
  with_reducible refine hadd.out.mono ?_
  rintro e w1 ⟨rfl, hx1, hu1⟩
  have hm1 := hm.keep hu1 h1 h2 h3
  go_wp2_with fail
  with_reducible refine (hms.out w1 hx1 hm1).mono ?_
  rintro e w2 ⟨rfl, hx2, hu2⟩
  go_wp2_with fail
  go_ret
  exact ⟨rfl, hx2, hu1.trans hu2⟩

/-- X - Y, and M more where that is below 0. -/
def mdN (X Y M : Nat) : Nat := if Y ≤ X then X - Y else X + M - Y
theorem mdN_eq {n X Y M : Nat} (hX : X < W64 ^ n) (hY : Y < W64 ^ n) (hM : M < W64 ^ n) (h : Y ≤ X + M) : selN (ltN X Y) (subN n X Y) ((subN n X Y + M) % W64 ^ n) = mdN X Y M := by
  unfold mdN ltN
  by_cases h1 : Y ≤ X
  · rw [if_neg (by omega), if_pos h1, selN_zero, subN_le hX h1]
  · rw [if_pos (by omega), if_neg h1, selN_one, subN_gt hY (by omega)]
    rw [show X + W64 ^ n - Y + M = (X + M - Y) + W64 ^ n by omega, Nat.add_mod_right, Nat.mod_eq_of_lt (by omega)]
theorem mdN_mod {X Y M : Nat} (hX : X < M) (hY : Y ≤ M) : mdN X Y M = (X + M - Y) % M := by
  unfold mdN
  by_cases h1 : Y ≤ X
  · rw [if_pos h1, show X + M - Y = (X - Y) + M by omega, Nat.add_mod_right, Nat.mod_eq_of_lt (by omega)]
  · rw [if_neg h1, Nat.mod_eq_of_lt (by omega)]

set_option maxHeartbeats 2000000 in
theorem natSub_any (p b c n X q b' c' Y mp qm bm cm M : Nat) (w : World) (hx : NatAt w p b c n X) (hy : NatAt w q b' c' n Y) (hm : MNat w mp qm bm cm n M) (hal : b' = b → X = Y) (h1 : mp ≠ b) (h2 : qm ≠ b) (h3 : bm ≠ b) (hT : Y ≤ X + M) :
    Calls Try.prog 103 #[.pointer (some ⟨p, 0, none⟩), .pointer (some ⟨q, 0, none⟩), .pointer (some ⟨mp, 0, none⟩)] w fun e w' => e = .returned (.pointer (some ⟨p, 0, none⟩)) ∧ NatAt w' p b c n (mdN X Y M) ∧ Upd (fun k => k = b) w w' := by
  have HR := mdN_eq hx.lt hy.lt hm.nat.lt hT
  have HR := Lib.hid HR
  have hle := ltN_le X Y
  have hpl := hx.hp
  have hbl := hx.hb
  have hml := hm.hp
  have hql := hm.nat.hp
  have hbl2 := hm.nat.hb
  go_enter Try.func103, Try.ntmps103
  go_wp2_with fail
  with_reducible refine (sub_any p b c n X q b' c' Y w hx hy hal).mono ?_
  rintro e w0 ⟨rfl, hx0, hu0⟩
  have hm0 := hm.keep hu0 h1 h2 h3
  have hs0 := hu0.size
  go_wp2_with fail
  with_reducible refine (newNat_any w0).mono ?_
  rintro e w1 ⟨rfl, ht, hu1, hs1⟩
  have hx1 := hx0.keep0 hu1
  have hm1 := hm0.keep0 hu1
  go_wp2_with fail
  with_reducible refine (set_any (w0.heap.size + 1) w0.heap.size 32 0 0 p b c n (subN n X Y) w1 ht hx1 (by omega) (by omega) (by omega) (by omega)).mono ?_
  rintro e w2 ⟨rfl, b2, c2, ht2, hb2, hu2⟩
  have hx2 := hx1.keep hu2 (by omega) (by omega)
  have hm2 := hm1.keep hu2 (by omega) (by omega) (by omega)
  have hb2' : w0.heap.size ≤ b2 := by rcases hb2 with h | h <;> omega
  clear hb2 hx1 hm1 ht hx0 hm0
  have hcm := hm2.hm
  go_wp2_with fail
  with_reducible refine (add_any (w0.heap.size + 1) b2 c2 n (subN n X Y) qm bm cm M w2 ht2 hm2.nat (fun h => by omega)).mono ?_
  rintro e w3 ⟨rfl, ht3, hu3⟩
  have hx3 := hx2.keep hu3 (by omega) (by omega)
  clear hcm hx2 hm2 ht2
  go_wp2_with fail
  with_reducible refine (assign_any p b c n (subN n X Y) (w0.heap.size + 1) b2 c2 ((subN n X Y + M) % W64 ^ n) (ltN X Y) w3 hx3 ht3 hle (fun h => by omega)).mono ?_
  rw [HR.out]
  rintro e w4 ⟨rfl, hx4, hu4⟩
  go_wp2_with fail
  go_ret
  exact ⟨rfl, hx4, ((hu0.then hu1 (fun _ _ h => h.elim)).then hu2 (fun i hi h => by omega)).then hu3 (fun i hi h => by omega) |>.then hu4 (fun i hi h => h)⟩
end Go.Proofs.Ytmbghmjllipbhaa
