/-
  Contracts: trim, set, expand.
-/
import Derived.Test.YtmbghmjllipbhaaNatG
namespace Go.Proofs.Ytmbghmjllipbhaa
open Go.RowKit

/-- How many limbs a number has. -/
def nl (X : Nat) : Nat := (blen X + 63) / 64
theorem nl_le_iff (n X : Nat) : nl X ≤ n ↔ X < W64 ^ n := by
  rw [powW, ← blen_le_iff]; unfold nl; omega
theorem lt_pow_nl (X : Nat) : X < W64 ^ nl X := (nl_le_iff _ X).1 (Nat.le_refl _)
theorem nl_pos {X : Nat} (h : X ≠ 0) : 0 < nl X := by have := blen_pos h; unfold nl; omega
theorem nl_mono {a b : Nat} (h : a ≤ b) : nl a ≤ nl b := by have := blen_mono h; unfold nl; omega
theorem nl_of_top {X n : Nat} (h : X < W64 ^ (n + 1)) (ht : dg W64 X n ≠ 0) : nl X = n + 1 := by
  have h1 := (nl_le_iff (n + 1) X).2 h
  have h2 : ¬ nl X ≤ n := fun h3 => ht (dg_of_lt ((nl_le_iff n X).1 h3))
  omega
theorem lt_of_no_top {X n : Nat} (h : X < W64 ^ (n + 1)) (ht : dg W64 X n = 0) : X < W64 ^ n := by
  have h1 := mod_succ W64 X n
  rw [Nat.mod_eq_of_lt h, ht, Nat.mul_zero, Nat.add_zero] at h1
  rw [h1]
  exact Nat.mod_lt _ (Nat.pow_pos W64_pos)
theorem nl_zero : nl 0 = 0 := rfl

/-- A number is cut to its first limbs. -/
theorem NatAt.cut {w : World} {p b c m X n : Nat} (hx : NatAt w p b c m X) (hn : n ≤ m) (hX : X < W64 ^ n) : NatAt (w.setCell ⟨p, 0, none⟩ (.slice (some ⟨b, 0, none⟩) n c)) p b c n X := by
  have hne : ∀ i, (⟨p, 0, none⟩ : Addr) ≠ ⟨b, i, none⟩ := fun i e => by cases e; exact hx.ne rfl
  exact ⟨World.cell?_setCell_same _ _ _ hx.hd, by rw [World.frozen?_setCell]; exact hx.hf, Nat.le_trans hn hx.le, hx.sm, hX,
    ⟨fun i hi => by rw [World.cell?_setCell_other _ _ _ _ (hne i)]; exact hx.own.cell i (by omega), fun i hi => by rw [World.frozen?_setCell]; exact hx.own.free i (by omega)⟩,
    fun i hi => by rw [World.cell?_setCell_other _ _ _ _ (hne i)]; exact hx.room i hi, fun i hi => by rw [World.frozen?_setCell]; exact hx.free i hi, hx.ne, by rw [World.size_setCell]; exact hx.hb⟩

set_option maxRecDepth 100000 in
set_option maxHeartbeats 1000000 in
theorem trim_any (p b c m X : Nat) (w : World) (hx : NatAt w p b c m X) :
    Calls Try.prog 132 #[.pointer (some ⟨p, 0, none⟩)] w fun e w' => e = .returned (.pointer (some ⟨p, 0, none⟩)) ∧ NatAt w' p b c (nl X) X ∧ Upd (fun k => k = p) w w' := by
  have hcell := hx.hd
  have hle := hx.le
  have hsm := hx.sm
  go_enter Try.func132, Try.ntmps132
  go_wp2
  go_loopw [3] (fun i wr => ∃ k : Nat, k ≤ c ∧ i = .int .i64 ((k : Int) - 1) ∧ NatAt wr p b c k X ∧ Upd (fun k => k = p) w wr) (fun i _ => (intOf i + 1).toNat)
  case atStart => exact ⟨m, hle, rfl, hx, .refl _ _⟩
  case round =>
    obtain ⟨k, hk, hi, hx1, hu⟩ := hrel
    clear hx hcell
    have hcell1 := hx1.hd
    have hfree1 := hx1.hf
    by_cases h0 : k = 0
    · subst h0
      subst hi
      have HX : NatAt wr p b c (nl X) X := by
        have h1 := hx1.lt
        obtain rfl : X = 0 := by simpa using h1
        exact hx1
      clear hx1
      go_wp2
      go_ret
      exact ⟨rfl, HX, hu⟩
    · obtain ⟨j, rfl⟩ : ∃ j, k = j + 1 := ⟨k - 1, by omega⟩
      replace hi := hi.trans (show Value.int .i64 (((j + 1 : Nat) : Int) - 1) = .int .i64 (j : Int) by congr 1; omega)
      subst hi
      obtain ⟨d, hc1, hd, HD⟩ := hx1.limb (show j < j + 1 by omega)
      by_cases hd0 : d = 0
      · subst hd0
        have HX := hx1.cut (n := j) (by omega) (lt_of_no_top hx1.lt HD.out.symm)
        have hu1 := hu.setCell ⟨p, 0, none⟩ (.slice (some ⟨b, 0, none⟩) j c) (fun _ => rfl)
        clear hx1 hu
        go_wp2
        go_roundw
        case rel => exact ⟨j, by omega, rfl, HX, hu1⟩
        case measure => simp [intOf]
      · have hd0' : ((d : Int) == 0) = false := by rw [beq_eq_false_iff_ne]; omega
        have HX : NatAt wr p b c (nl X) X := by
          rw [nl_of_top hx1.lt (by rw [← HD.out]; exact hd0)]; exact hx1
        clear hx1
        go_wp2
        go_ret
        exact ⟨rfl, HX, hu⟩

set_option maxRecDepth 100000 in
set_option maxHeartbeats 1000000 in
theorem set_any (p b c m X q b' c' n Y : Nat) (w : World) (hx : NatAt w p b c m X) (hy : NatAt w q b' c' n Y) (h1 : q ≠ p) (h2 : q ≠ b) (h3 : b' ≠ p) (h4 : b' ≠ b) :
    Calls Try.prog 112 #[.pointer (some ⟨p, 0, none⟩), .pointer (some ⟨q, 0, none⟩)] w fun e w' => e = .returned (.pointer (some ⟨p, 0, none⟩)) ∧ ∃ b1 c1, NatAt w' p b1 c1 n Y ∧ NewB w b b1 ∧ Upd (fun k => k = p ∨ k = b) w w' := by
  have hcell := hy.hd
  have hle := hy.le
  have hsm := hy.sm
  go_enter Try.func112, Try.ntmps112
  go_wp2_with fail
  with_reducible refine (reset_any p b c m X n w hx (by omega)).mono ?_
  rintro e w1 ⟨rfl, b1, c1, hx1, hb1, hu1⟩
  have hy1 := hy.keep hu1 (by omega) (by omega)
  have hcell1 := hx1.hd
  have hcell2 := hy1.hd
  clear hcell
  go_wp2_with fail
  go_still_tail 8, (by kernel_rfl)
  change wpList _ _ _ _ _ w1.drew
  go_wp2_with (refine wpList_copy_ints rfl (.tmp 15) (.tmp 19) 88 88 rfl 59 Try.underlying88 (by kernel_rfl) .u64 b1 n c1 _ rfl hx1.drew.own (some ⟨b', 0, none⟩) n c' _ rfl hy1.drew.own.rd ?_; intro w2 h1 h2 h3 hu2)
  go_ret
  have hX : NatAt w2 p b1 c1 n Y := hx1.drew.written hy.lt (h1.congr (fun i hi => by rw [if_pos hi])) h2 h3 hu2
  exact ⟨rfl, b1, c1, hX, hb1, hu1.then hu2.of_drew (fun i hi h => by
    subst h
    rcases hb1 with h | h
    · exact .inr h
    · omega)⟩
end Go.Proofs.Ytmbghmjllipbhaa
