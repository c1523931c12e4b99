/-
  The contracts of the reference's small functions: trimmed, bits, octet, octets, short, less, even.
-/
import Derived.Test.YtmbghmjllipbhaaBase
namespace Go.Proofs.Ytmbghmjllipbhaa
open Go.RowKit

theorem ret_int {k : IntKind} {a b : Int} (h : a = b) : Ending.returned (.int k a) = .returned (.int k b) := by rw [h]
theorem ret_nat {k : IntKind} {a b : Nat} (h : a = b) : Ending.returned (.int k a) = .returned (.int k b) := by rw [h]
theorem ret_slice {a : Option Addr} {n m c : Nat} (h : n = m) : Ending.returned (.slice a n c) = .returned (.slice a m c) := by rw [h]
theorem ret_bool {a b : Bool} (h : a = b) : Ending.returned (.bool a) = .returned (.bool b) := by rw [h]

/-- A digit of a number that is read, behind a name. -/
theorem num_cell {a : Option Addr} {n N j : Nat} {w : World} (hr : Rd .i64 w a n (dg 65536 N)) (hj : j < n) :
    ∃ b off d, a = some ⟨b, off, none⟩ ∧ w.cell? ⟨b, off + j, none⟩ = some (.int .i64 (d : Nat)) ∧ d < 65536 ∧ Hid (d = dg 65536 N j) := by
  obtain ⟨b, off, rfl, h⟩ := hr j hj
  exact ⟨b, off, _, rfl, h, dg_lt (by omega) _ _, rfl⟩

set_option maxHeartbeats 400000 in
theorem trimmed_any (a : Option Addr) (n c N : Nat) (w : World) (hn : n ≤ 1048576) (hc : n ≤ c) (hN : N < 65536 ^ n) (hr : Rd .i64 w a n (dg 65536 N)) :
    Calls Try.prog 126 #[.slice a n c] w fun e w' => e = .returned (.slice a (nd N) c) ∧ w = w' := by
  have hnd : nd N ≤ n := (nd_le_iff n N).2 hN
  go_enter Try.func126, Try.ntmps126
  go_wp2
  go_loop [3] (fun i => ∃ k : Nat, k ≤ n ∧ nd N ≤ k ∧ i = .int .i64 k) (fun i => (intOf i).toNat)
  case atStart => exact ⟨n, Nat.le_refl _, hnd, rfl⟩
  case round =>
    obtain ⟨k, hk, hkn, rfl⟩ := hrel
    by_cases h0 : k = 0
    · subst h0
      go_wp2
      go_ret
      exact ⟨ret_slice (by omega), rfl⟩
    · obtain ⟨j, rfl⟩ : ∃ j, k = j + 1 := ⟨k - 1, by omega⟩
      obtain ⟨b, off, d, rfl, hcell, hd, HD⟩ := num_cell hr (show j < n by omega)
      have hlt : N < 65536 ^ (j + 1) := (nd_le_iff _ _).1 hkn
      have HT : Hid (N < 65536 ^ (j + 1)) := hlt
      clear hlt hN
      by_cases hz : d = 0
      · subst hz
        go_wp2
        go_round
        case rel => exact ⟨j, by omega, (nd_le_iff _ _).2 (nd_of_no_top HT.out HD.out.symm), rfl⟩
        case measure => simp [intOf]
      · have hz' : ((d : Int) == 0) = false := by simpa using hz
        have HN : Hid (nd N = j + 1) := nd_of_top HT.out (by rw [← HD.out]; exact hz)
        go_wp2
        go_ret
        exact ⟨ret_slice HN.out.symm, rfl⟩

set_option maxHeartbeats 400000 in
theorem bits_any (a : Option Addr) (c N : Nat) (w : World) (hn : nd N ≤ 1048576) (hr : Rd .i64 w a (nd N) (dg 65536 N)) :
    Calls Try.prog 91 #[.slice a (nd N) c] w fun e w' => e = .returned (.int .i64 (blen N)) ∧ w = w' := by
  by_cases h0 : N = 0
  · subst h0
    go_enter Try.func91, Try.ntmps91
    go_wp2
    go_ret
    exact ⟨rfl, rfl⟩
  · obtain ⟨m, hm⟩ : ∃ m, nd N = m + 1 := ⟨nd N - 1, by have := nd_pos h0; omega⟩
    have HB : Hid (blen N = 16 * m + blen (dg 65536 N m)) := blen_top hm
    rw [hm] at hr hn ⊢
    obtain ⟨b, off, d, rfl, hcell, hd, HD⟩ := num_cell hr (show m < m + 1 by omega)
    have HB : Hid (blen N = 16 * m + blen d) := by rw [HD.out]; exact HB
    clear hr hm h0 HD
    go_enter Try.func91, Try.ntmps91
    go_wp2
    go_loop [3, 4] (fun t x => ∃ k y : Nat, y ≤ d ∧ x = .int .i64 y ∧ t = .int .i64 k ∧ Hid (k + blen y = 16 * m + blen d) ∧ k ≤ 16777216 + 16) (fun _ x => (intOf x).toNat)
    case atStart => exact ⟨16 * m, d, Nat.le_refl _, rfl, by go_num, rfl, by omega⟩
    case round =>
      obtain ⟨k, y, hy, rfl, rfl, HK, hk⟩ := hrel
      by_cases hy0 : y = 0
      · subst hy0
        go_wp2
        go_ret
        exact ⟨ret_nat (by rw [HB.out]; have := HK.out; rw [blen_zero] at this; omega), rfl⟩
      · have hy1 : 0 < y := by omega
        have hk2 : k ≤ 16777216 + 15 := by
          have h1 := HK.out
          have h2 := blen_half y hy0
          have h3 : blen d ≤ 16 := (blen_le_iff 16 d).2 hd
          omega
        have HK2 : Hid (k + 1 + blen (y / 2) = 16 * m + blen d) := by
          show _ = _
          rw [← HK.out, blen_half y hy0]; omega
        go_wp2
        go_round
        case rel => exact ⟨k + 1, y / 2, by omega, by go_num, by go_num, HK2, by omega⟩
        case measure => simp [intOf]; omega

set_option maxHeartbeats 400000 in
theorem octet_any (a : Option Addr) (c N i : Nat) (w : World) (hn : nd N ≤ 1048576) (hi : i ≤ 1048576) (hr : Rd .i64 w a (nd N) (dg 65536 N)) :
    Calls Try.prog 153 #[.slice a (nd N) c, .int .i64 i] w fun e w' => e = .returned (.int .u8 (dg 256 N i)) ∧ w = w' := by
  by_cases hlt : i / 2 < nd N
  · have HV : Hid (dg 256 N i = if i % 2 = 1 then dg 65536 N (i / 2) / 256 else dg 65536 N (i / 2) % 256) := dg_byte N i
    obtain ⟨b, off, d, rfl, hcell, hd, HD⟩ := num_cell hr hlt
    have HV : Hid (dg 256 N i = if i % 2 = 1 then d / 256 else d % 256) := by rw [HD.out]; exact HV
    clear HD hr
    generalize nd N = m at *
    by_cases h2 : i % 2 = 1
    · have HV : Hid (dg 256 N i = d / 256) := by show _ = _; rw [HV.out, if_pos h2]
      go_enter Try.func153, Try.ntmps153
      go_wp2
      go_ret
      exact ⟨ret_int (by rw [HV.out]; go_num), rfl⟩
    · have HV : Hid (dg 256 N i = d % 256) := by show _ = _; rw [HV.out, if_neg h2]
      go_enter Try.func153, Try.ntmps153
      go_wp2
      go_ret
      exact ⟨ret_int (by rw [HV.out]; go_num), rfl⟩
  · have HV : Hid (dg 256 N i = 0) := by
      show _ = _
      have h1 : N < 65536 ^ (i / 2) := (nd_le_iff _ _).1 (by omega)
      rw [dg_byte, dg_of_lt h1]
      split <;> rfl
    clear hr
    generalize nd N = m at *
    go_enter Try.func153, Try.ntmps153
    go_wp2
    go_ret
    exact ⟨ret_int (by rw [HV.out]; rfl), rfl⟩

theorem make_u8 (n : Nat) (hn : n ≤ 1048576) : ∀ w, (Instr.makeSlice 22 (.int .i64 n) (.int .i64 n)).run Try.prog w = .ok (.slice (some ⟨w.heap.size, 0, none⟩) n n) (w.alloc (.cells (madeCells #[.int .u8 0] n) 5)) :=
  run_make_ints (bytes := 1) Try.underlying22 (by kernel_rfl) n n (Nat.le_refl _) hn (by omega)
theorem make_num (n : Nat) (hn : n ≤ 1048576) : ∀ w, (Instr.makeSlice 50 (.int .i64 n) (.int .i64 n)).run Try.prog w = .ok (.slice (some ⟨w.heap.size, 0, none⟩) n n) (w.alloc (.cells (madeCells #[.int .i64 0] n) 3)) :=
  run_make_ints (bytes := 8) Try.underlying50 (by kernel_rfl) n n (Nat.le_refl _) hn (by omega)

set_option maxHeartbeats 400000 in
theorem octets_any (a : Option Addr) (c N size : Nat) (w : World) (hn : nd N ≤ 1048576) (hs : size ≤ 1048576) (hr : Rd .i64 w a (nd N) (dg 65536 N)) :
    Calls Try.prog 115 #[.slice a (nd N) c, .int .i64 size] w (RetBytes w size (fun i => dg 256 N (size - 1 - i))) := by
  have hmk := make_u8 size hs
  go_enter Try.func115, Try.ntmps115
  go_wp2
  go_loopw [6] (fun i wr => ∃ k : Nat, k ≤ size ∧ i = .int .i64 k ∧ Own .u8 wr w.heap.size size (fun j => if size - k ≤ j then dg 256 N (size - 1 - j) else 0) ∧ Upd0 w wr) (fun i _ => size - (intOf i).toNat)
  case atStart => exact ⟨0, Nat.zero_le _, rfl, (Own.made .u8 w size _).congr (fun j hj => by rw [if_neg (by omega)]), (Upd.refl _ _).alloc _⟩
  case round =>
    obtain ⟨k, hk, rfl, hown, hu⟩ := hrel
    clear hmk
    by_cases hlt : k < size
    · have hr' := hr.keep hu
      have hcell := hown.cell (size - 1 - k) (by omega)
      have hfree := hown.free (size - 1 - k) (by omega)
      go_wp2_with (go_at_call 153; refine (octet_any _ _ _ _ _ hn (by omega) hr').mono ?_; rintro e w' ⟨rfl, rfl⟩)
      go_roundw
      case rel => exact ⟨k + 1, by omega, by go_num, (hown.set (i := size - 1 - k) (by omega) (dg 256 N k)).congr (fun j hj => by
        by_cases e : j = size - 1 - k
        · subst e; rw [if_pos rfl, if_pos (by omega)]; congr 1; omega
        · rw [if_neg e]
          by_cases e2 : size - k ≤ j
          · rw [if_pos e2, if_pos (by omega)]
          · rw [if_neg e2, if_neg (by omega)]), hu.setCell _ _ (fun h => by simp at h)⟩
      case measure => simp [intOf]; omega
    · go_wp2
      go_ret
      exact ⟨_, _, rfl, (hown.congr (fun j hj => by rw [if_pos (by omega)])).sl (Nat.le_refl _), hu⟩

set_option maxHeartbeats 400000 in
theorem short_any (a : Option Addr) (c N : Nat) (w : World) (hn : blen N ≤ 1048576) (hr : Rd .i64 w a (nd N) (dg 65536 N)) :
    Calls Try.prog 84 #[.slice a (nd N) c] w (RetBytes w (nb N) (fun i => dg 256 N (nb N - 1 - i))) := by
  have hnd : nd N ≤ 1048576 := by unfold nd; omega
  have hnb : nb N ≤ 1048576 := by unfold nb; omega
  have h8 : (((blen N : Nat) : Int) + 7) / 8 = ((nb N : Nat) : Int) := by unfold nb; omega
  have H8 := Lib.hid h8
  clear h8
  go_enter Try.func84, Try.ntmps84
  go_wp2_with fail
  refine (bits_any _ _ _ _ hnd hr).mono ?_
  rintro e w' ⟨rfl, rfl⟩
  go_wp2_with fail
  rw [H8.out]
  refine (octets_any _ _ _ _ _ hnd hnb hr).mono ?_
  rintro e w' ⟨a', c', rfl, h1, h2⟩
  go_wp2_with fail
  go_ret
  exact ⟨_, _, rfl, h1, h2⟩

set_option maxHeartbeats 400000 in
theorem less_any (a a' : Option Addr) (c c' A B : Nat) (w : World) (hA : nd A ≤ 1048576) (_hB : nd B ≤ 1048576) (hr : Rd .i64 w a (nd A) (dg 65536 A)) (hr' : Rd .i64 w a' (nd B) (dg 65536 B)) :
    Calls Try.prog 128 #[.slice a (nd A) c, .slice a' (nd B) c'] w fun e w' => e = .returned (.bool (decide (A < B))) ∧ ∃ k, w' = w.drewN k := by
  by_cases hne : nd A = nd B
  · have HA : Hid (A < 65536 ^ nd A) := lt_pow_nd A
    have HB : Hid (B < 65536 ^ nd A) := by rw [hne]; exact lt_pow_nd B
    rw [← hne] at hr' ⊢
    clear hne
    generalize nd A = m at *
    have hq : ((m : Int) != (m : Int)) = false := by simp
    go_enter Try.func128, Try.ntmps128
    go_wp2
    go_loopw [5] (fun i wr => ∃ k q : Nat, k ≤ m ∧ i = .int .i64 ((k : Int) - 1) ∧ Hid (A / 65536 ^ k = B / 65536 ^ k) ∧ wr = w.drewN q) (fun i _ => (intOf i + 1).toNat)
    case atStart => exact ⟨m, 0, Nat.le_refl _, rfl, by show _ = _; rw [Nat.div_eq_of_lt HA.out, Nat.div_eq_of_lt HB.out], rfl⟩
    case round =>
      obtain ⟨k, q, hk, rfl, HE, rfl⟩ := hrel
      by_cases h0 : k = 0
      · subst h0
        have HE' : Hid (A = B) := by have := HE.out; show A = B; simpa using this
        go_wp2
        go_ret
        exact ⟨ret_bool (by rw [HE'.out]; simp), q, rfl⟩
      · obtain ⟨j, rfl⟩ : ∃ j, k = j + 1 := ⟨k - 1, by omega⟩
        obtain ⟨b, off, d, rfl, hcell, hd, HD⟩ := num_cell hr (show j < m by omega)
        obtain ⟨b', off', d', rfl, hcell', hd', HD'⟩ := num_cell hr' (show j < m by omega)
        have hj1 : ((j : Int) + 1 - 1) = (j : Int) := by omega
        have i1 : (j : Int) < (m : Int) := by omega
        have i2 : (0 : Int) ≤ (j : Int) := by omega
        have i3 : ((j : Int)).toNat = j := by omega
        by_cases hdd : d = d'
        · subst hdd
          have hq2 : ((d : Int) != (d : Int)) = false := by simp
          have HE' : Hid (A / 65536 ^ j = B / 65536 ^ j) := eq_digit (by omega) HE.out (by rw [← HD.out, ← HD'.out])
          go_wp2_with fail
          go_quiet (fail)
          go_wp2_with fail
          go_roundw
          case rel => exact ⟨j, _, by omega, rfl, HE', rfl⟩
          case measure => simp [intOf]
        · have hq2 : ((d : Int) != (d' : Int)) = true := by rw [bne_iff_ne]; omega
          have HE' : Hid (decide (d < d') = decide (A < B)) := by
            have := cmp_digit (by omega) HE.out (by rw [← HD.out, ← HD'.out]; exact hdd)
            rw [← HD.out, ← HD'.out] at this
            exact this
          go_wp2_with fail
          go_quiet (fail)
          go_wp2_with fail
          go_quiet (fail)
          go_wp2_with fail
          go_ret
          exact ⟨ret_bool HE'.out, _, by rw [World.drewN_drewN, World.drewN_drewN]⟩
  · have h1 : decide (nd A < nd B) = decide (A < B) := by
      have h1 := @nd_mono A B
      have h2 := @nd_mono B A
      rw [Bool.eq_iff_iff]; simp only [decide_eq_true_eq]
      omega
    have H1 := Lib.hid h1
    clear h1
    have hq : ((nd A : Int) != (nd B : Int)) = true := by rw [bne_iff_ne]; omega
    clear hr hr'
    generalize nd A = m at *
    generalize nd B = m' at *
    go_enter Try.func128, Try.ntmps128
    go_wp2
    go_ret
    exact ⟨ret_bool H1.out, 0, rfl⟩

set_option maxHeartbeats 400000 in
theorem even_any (a : Option Addr) (c N : Nat) (w : World) (hn : nd N ≤ 1048576) (hr : Rd .i64 w a (nd N) (dg 65536 N)) :
    Calls Try.prog 83 #[.slice a (nd N) c] w fun e w' => e = .returned (.bool (decide (N % 2 = 0))) ∧ w = w' := by
  by_cases h0 : N = 0
  · subst h0
    go_enter Try.func83, Try.ntmps83
    go_wp2
    go_ret
    exact ⟨rfl, rfl⟩
  · obtain ⟨m, hm⟩ : ∃ m, nd N = m + 1 := ⟨nd N - 1, by have := nd_pos h0; omega⟩
    rw [hm] at hr hn ⊢
    obtain ⟨b, off, d, rfl, hcell, hd, HD⟩ := num_cell hr (show 0 < m + 1 by omega)
    rw [Nat.add_zero] at hcell
    have hH : Hid (decide (N % 2 = 0) = decide (d % 2 = 0)) := by
      have := HD.out; rw [dg_zero] at this
      show _ = _
      rw [Bool.eq_iff_iff]; simp only [decide_eq_true_eq]; omega
    have h0' : ((m : Int) + 1 == 0) = false := by rw [beq_eq_false_iff_ne]; omega
    clear hr hm h0 HD
    by_cases h2 : d % 2 = 0
    · have h2' : ((d : Int) % 2 == 0) = true := by rw [beq_iff_eq]; omega
      go_enter Try.func83, Try.ntmps83
      go_wp2
      go_ret
      exact ⟨ret_bool (by rw [hH.out]; simp [h2]), rfl⟩
    · have h2' : ((d : Int) % 2 == 0) = false := by rw [beq_eq_false_iff_ne]; omega
      go_enter Try.func83, Try.ntmps83
      go_wp2
      go_ret
      exact ⟨ret_bool (by rw [hH.out]; simp [h2]), rfl⟩
end Go.Proofs.Ytmbghmjllipbhaa
