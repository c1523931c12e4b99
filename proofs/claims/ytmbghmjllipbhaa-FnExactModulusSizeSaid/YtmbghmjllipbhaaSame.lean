/-
  The contracts of the laws' own small functions: same, zero, odd.
-/
import Derived.Test.YtmbghmjllipbhaaSpecB
namespace Go.Proofs.Ytmbghmjllipbhaa
open Go.RowKit

/-- Whether two lists of bytes are the same. -/
def sameB (n m : Nat) (f g : Nat → Nat) : Bool := decide (n = m ∧ ∀ i, i < n → f i = g i)
theorem sameB_true {n m : Nat} {f g : Nat → Nat} (h1 : n = m) (h2 : ∀ i, i < n → f i = g i) : sameB n m f g = true := decide_eq_true ⟨h1, h2⟩
theorem sameB_false {n m : Nat} {f g : Nat → Nat} (h : n = m → ∃ i, i < n ∧ f i ≠ g i) : sameB n m f g = false :=
  decide_eq_false fun ⟨h1, h2⟩ => by obtain ⟨i, hi, hne⟩ := h h1; exact hne (h2 i hi)

set_option maxHeartbeats 400000 in
theorem same_any (a a' : Option Addr) (n m c c' : Nat) (f g : Nat → Nat) (w : World) (hn : n ≤ 1048576) (hf : ∀ i, i < n → f i < 256) (hg : ∀ i, i < m → g i < 256) (hs : Rd .u8 w a n f) (hs' : Rd .u8 w a' m g) :
    Calls Try.prog 28 #[.slice a n c, .slice a' m c'] w fun e w' => e = .returned (.bool (sameB n m f g)) ∧ ∃ k, w' = w.drewN k := by
  by_cases hne : n = m
  · subst hne
    have hq : ((n : Int) != (n : Int)) = false := by simp
    have HF := Lib.hid hf
    have HG := Lib.hid hg
    clear hf hg
    go_enter Try.func28, Try.ntmps28
    go_wp2
    go_loopw [5] (fun i wr => ∃ k q : Nat, k ≤ n ∧ i = .int .i64 k ∧ Hid (∀ i, i < k → f i = g i) ∧ wr = w.drewN q) (fun i _ => n - (intOf i).toNat)
    case atStart => exact ⟨0, 0, Nat.zero_le _, rfl, fun i hi => absurd hi (Nat.not_lt_zero i), rfl⟩
    case round =>
      obtain ⟨k, q, hk, rfl, HE, rfl⟩ := hrel
      by_cases hlt : k < n
      · obtain ⟨b, off, d, rfl, hcell, hd, HD⟩ := byte_cell hs HF.out hlt
        obtain ⟨b', off', d', rfl, hcell', hd', HD'⟩ := byte_cell hs' HG.out hlt
        have i1 : (k : Int) < (n : Int) := by omega
        have i2 : (0 : Int) ≤ (k : Int) := by omega
        have i3 : ((k : Int)).toNat = k := by omega
        by_cases hdd : d = d'
        · subst hdd
          have hq2 : ((d : Int) != (d : Int)) = false := by simp
          go_wp2_with fail
          go_quiet (fail)
          go_wp2_with fail
          go_roundw
          case rel => exact ⟨k + 1, _, by omega, by go_num, fun i hi => by
            by_cases e : i = k
            · subst e; rw [← HD.out, ← HD'.out]
            · exact HE.out i (by omega), rfl⟩
          case measure => simp [intOf]; omega
        · have hq2 : ((d : Int) != (d' : Int)) = true := by rw [bne_iff_ne]; omega
          have HN : Hid (sameB n n f g = false) := sameB_false fun _ => ⟨k, hlt, by rw [← HD.out, ← HD'.out]; exact hdd⟩
          go_wp2_with fail
          go_quiet (fail)
          go_wp2_with fail
          go_ret
          exact ⟨ret_bool HN.out.symm, _, by rw [World.drewN_drewN]⟩
      · obtain rfl : k = n := by omega
        have HY : Hid (sameB k k f g = true) := sameB_true rfl HE.out
        go_wp2
        go_ret
        exact ⟨ret_bool HY.out.symm, q, rfl⟩
  · have hq : ((n : Int) != (m : Int)) = true := by rw [bne_iff_ne]; omega
    have HN : Hid (sameB n m f g = false) := sameB_false fun h => absurd h hne
    clear hs hs' hf hg
    go_enter Try.func28, Try.ntmps28
    go_wp2
    go_ret
    exact ⟨ret_bool HN.out.symm, 0, rfl⟩

/-- Whether all bytes are 0. -/
theorem be_zero_iff (f : Nat → Nat) (n : Nat) : be f n = 0 ↔ ∀ i, i < n → f i = 0 := be_eq_zero

set_option maxHeartbeats 400000 in
theorem zero_any (a : Option Addr) (n c : Nat) (f : Nat → Nat) (w : World) (hn : n ≤ 1048576) (hf : ∀ i, i < n → f i < 256) (hs : Rd .u8 w a n f) :
    Calls Try.prog 33 #[.slice a n c] w fun e w' => e = .returned (.bool (decide (be f n = 0))) ∧ w = w' := by
  have HF := Lib.hid hf
  clear hf
  have HB : Hid (be f n = 0 ↔ ∀ i, i < n → f i = 0) := be_eq_zero
  go_enter Try.func33, Try.ntmps33
  go_wp2
  go_loop [3] (fun i => ∃ k : Nat, k ≤ n ∧ i = .int .i64 k ∧ Hid (∀ i, i < k → f i = 0)) (fun i => n - (intOf i).toNat)
  case atStart => exact ⟨0, Nat.zero_le _, rfl, fun i hi => absurd hi (Nat.not_lt_zero i)⟩
  case round =>
    obtain ⟨k, hk, rfl, HE⟩ := hrel
    by_cases hlt : k < n
    · obtain ⟨b, off, d, rfl, hcell, hd, HD⟩ := byte_cell hs HF.out hlt
      by_cases hz : d = 0
      · subst hz
        have hq2 : ((0 : Int) != 0) = false := by simp
        go_wp2
        go_round
        case rel => exact ⟨k + 1, by omega, by go_num, fun i hi => by
            by_cases e : i = k
            · subst e; rw [← HD.out]
            · exact HE.out i (by omega)⟩
        case measure => simp [intOf]; omega
      · have hq2 : ((d : Int) != 0) = true := by rw [bne_iff_ne]; omega
        have HN : Hid (decide (be f n = 0) = false) := decide_eq_false fun h => hz (by rw [HD.out]; exact HB.out.1 h k hlt)
        go_wp2
        go_ret
        exact ⟨ret_bool HN.out.symm, rfl⟩
    · obtain rfl : k = n := by omega
      have HY : Hid (decide (be f k = 0) = true) := decide_eq_true (HB.out.2 HE.out)
      go_wp2
      go_ret
      exact ⟨ret_bool HY.out.symm, rfl⟩

theorem be_odd {f : Nat → Nat} {n : Nat} (h : 0 < n) : be f n % 2 = f (n - 1) % 2 := by
  obtain ⟨m, rfl⟩ : ∃ m, n = m + 1 := ⟨n - 1, by omega⟩
  simp only [be, Nat.add_sub_cancel]; omega

set_option maxHeartbeats 400000 in
theorem odd_any (a : Option Addr) (n c : Nat) (f : Nat → Nat) (w : World) (hn : n ≤ 1048576) (hf : ∀ i, i < n → f i < 256) (hs : Rd .u8 w a n f) :
    Calls Try.prog 34 #[.slice a n c] w fun e w' => e = .returned (.bool (decide (be f n % 2 = 1))) ∧ w = w' := by
  by_cases h0 : n = 0
  · subst h0
    go_enter Try.func34, Try.ntmps34
    go_wp2
    go_ret
    exact ⟨rfl, rfl⟩
  · obtain ⟨m, rfl⟩ : ∃ m, n = m + 1 := ⟨n - 1, by omega⟩
    have HB : Hid (be f (m + 1) % 2 = f m % 2) := be_odd (n := m + 1) (by omega)
    obtain ⟨b, off, d, rfl, hcell, hd, HD⟩ := byte_cell hs hf (show m < m + 1 by omega)
    clear hs hf
    by_cases h2 : d % 2 = 1
    · have hq : ((d : Int) % 2 == 1) = true := by rw [beq_iff_eq]; omega
      have HY : Hid (decide (be f (m + 1) % 2 = 1) = true) := decide_eq_true (by rw [HB.out, ← HD.out]; exact h2)
      go_enter Try.func34, Try.ntmps34
      go_wp2
      go_ret
      exact ⟨ret_bool HY.out.symm, rfl⟩
    · have hq : ((d : Int) % 2 == 1) = false := by rw [beq_eq_false_iff_ne]; omega
      have HN : Hid (decide (be f (m + 1) % 2 = 1) = false) := decide_eq_false (by rw [HB.out, ← HD.out]; exact h2)
      go_enter Try.func34, Try.ntmps34
      go_wp2
      go_ret
      exact ⟨ret_bool HN.out.symm, rfl⟩
end Go.Proofs.Ytmbghmjllipbhaa
