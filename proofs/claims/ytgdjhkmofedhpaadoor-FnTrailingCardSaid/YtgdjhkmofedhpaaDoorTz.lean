/-
  Contracts: bits.TrailingZeros, Nat.TrailingZeroBitsVarTime, impl.TrailingZeros, spec.TrailingZeros.
-/
import Derived.Test.YtgdjhkmofedhpaaDoorTzP
import Derived.Test.YtgdjhkmofedhpaaDoorGcdC
namespace Go.Proofs.YtgdjhkmofedhpaaDoor
open Go.RowKit

/-- The library's table in its variable. -/
def TabAt (w : World) : Prop := ∀ j, j < 64 → w.cell? ⟨1, j, none⟩ = some (.int .u8 (Lib.deBruijn64tab.getD j 0 : Nat))
theorem TabAt.keep {w w' : World} (h : TabAt w) (hu : Upd0 w w') : TabAt w' := fun j hj => hu.cell (p := ⟨1, j, none⟩) id (h j hj)
theorem tz_key (x a : Nat) (hx : x < 18446744073709551616) (hx0 : x ≠ 0) (hlow : x &&& (18446744073709551616 - x) = a) :
    IntKind.u64.wrap (bits BinOp.and IntKind.u64 (x : Int) (IntKind.u64.wrap (-(x : Int))) * 285870213051353865) / 288230376151711744 = ((a * 285870213051353865 % 18446744073709551616 / 288230376151711744 : Nat) : Int) := by
  have e1 : IntKind.u64.wrap (-(x : Int)) = ((18446744073709551616 - x : Nat) : Int) := by rw [IntKind.wrap_u64]; omega
  have e2 : andW x (18446744073709551616 - x) = a := by
    unfold andW
    rw [hlow, ← hlow]
    exact Nat.mod_eq_of_lt (Nat.lt_of_le_of_lt Nat.and_le_left hx)
  rw [e1, bits_and, e2, IntKind.wrap_u64]
  omega
set_option maxHeartbeats 1000000 in
theorem tz64_core (x k idx : Nat) (w : World) (hx0 : ((x : Int) == 0) = false)
    (key : IntKind.u64.wrap (bits BinOp.and IntKind.u64 (x : Int) (IntKind.u64.wrap (-(x : Int))) * 285870213051353865) / 288230376151711744 = (idx : Int))
    (hi : idx < 64) (hk : k < 64) (hcell : w.cell? ⟨1, idx, none⟩ = some (.int .u8 k)) :
    Calls Tryd.prog 31 #[.int .u64 x] w fun e w' => e = .returned (.int .i64 k) ∧ w = w' := by
  go_enter Tryd.func31, Tryd.ntmps31
  go_wp2_with (simp only [key])
  go_ret
  exact ⟨rfl, rfl⟩
theorem tz64_any {x : Nat} {w : World} (hx : x < 18446744073709551616) (hx0 : x ≠ 0) (hT : TabAt w) :
    Calls Tryd.prog 31 #[.int .u64 x] w fun e w' => e = .returned (.int .i64 (Lib.ctz 64 x)) ∧ w = w' := by
  obtain ⟨hlow, hk⟩ := Lib.lowest_bit 64 x hx0 hx
  obtain ⟨hi, htab⟩ := Lib.deBruijn64_at _ hk
  have hcell := hT _ hi
  rw [htab] at hcell
  exact tz64_core x _ _ w (by simp; omega) (tz_key x _ hx hx0 hlow) hi hk hcell
theorem tzU_any {x : Nat} {w : World} (hx : x < 18446744073709551616) (hx0 : x ≠ 0) (hT : TabAt w) :
    Calls Tryd.prog 24 #[.int .u64 x] w fun e w' => e = .returned (.int .i64 (Lib.ctz 64 x)) ∧ w = w' := by
  have hw : IntKind.u64.wrap (x : Int) = (x : Int) := by rw [IntKind.wrap_u64]; omega
  have c64 := Lib.hid (tz64_any hx hx0 hT)
  go_enter Tryd.func24, Tryd.ntmps24
  go_wp2_with fail
  with_reducible refine c64.out.mono ?_
  rintro e w1 ⟨rfl, rfl⟩
  go_wp2_with fail
  go_ret
  exact ⟨rfl, rfl⟩
set_option maxRecDepth 100000 in
set_option maxHeartbeats 1000000 in
theorem natTz_any {p b c n X t : Nat} {w : World} (hx : NatAt w p b c n X) (ht : IsTz X t) (hT : TabAt w) :
    Calls Tryd.prog 13 #[.pointer (some ⟨p, 0, none⟩)] w fun e w' => e = .returned (.int .u64 t) ∧ w = w' := by
  have hcell := hx.hd
  have hle := hx.le
  have hsm := hx.sm
  go_enter Tryd.func13, Tryd.ntmps13
  go_wp2_with fail
  go_loop [3, 13] (fun v i => ∃ j : Nat, j ≤ n ∧ i = .int .i64 j ∧ v = .int .u64 (64 * j : Nat) ∧ Hid (X % W64 ^ j = 0)) (fun _ i => n - (intOf i).toNat)
  case atStart => exact ⟨0, Nat.zero_le _, rfl, rfl, by show _ = _; rw [Nat.pow_zero, Nat.mod_one]⟩
  case round =>
    obtain ⟨j, hj, rfl, rfl, h0⟩ := hrel
    by_cases hlt : j < n
    · obtain ⟨d, hd1, hd, HD⟩ := hx.limb hlt
      by_cases hd0 : d = 0
      · subst hd0
        have HN : Hid (X % W64 ^ (j + 1) = 0) := zero_next h0.out HD.out.symm
        go_wp2_with fail
        go_round
        case rel => exact ⟨j + 1, by omega, by go_num, by go_num, HN⟩
        case measure => simp [intOf]; omega
      · obtain ⟨hz, hc⟩ := IsTz.limb hd0 hd
        have HV : Hid (64 * j + Lib.ctz 64 d = t) := (IsTz.at h0.out (by rw [← HD.out]; exact hz) hc).unique ht
        have kt := Lib.hid (tzU_any hd hd0 hT)
        obtain ⟨cz, Hcz⟩ : ∃ cz, cz = Lib.ctz 64 d := ⟨_, rfl⟩
        rw [← Hcz] at hc HV kt
        clear Hcz hz
        go_wp2_with fail
        with_reducible refine kt.out.mono ?_
        rintro e w1 ⟨rfl, rfl⟩
        go_wp2_with fail
        go_ret
        exact ⟨ret_int (by rw [← HV.out]; go_num), rfl⟩
    · obtain rfl : j = n := by omega
      exfalso
      have h1 := hx.lt
      have h2 := h0.out
      rw [Nat.mod_eq_of_lt h1] at h2
      exact ht.pos h2
theorem iisZero_yes {a : Option Addr} {n c N : Nat} {w : World} (hn : n ≤ 1048576) (h : Bs w a n c N) (h0 : N = 0) : Calls Tryd.prog 11 #[.slice a n c] w fun e w' => e = .returned (.bool true) ∧ Upd0 w w' :=
  (izeroT_bs hn h).mono fun _ _ ⟨h1, h2⟩ => ⟨by rw [h1, decide_eq_true h0], by rw [h2]; exact .refl _ _⟩
theorem iisZero_no {a : Option Addr} {n c N : Nat} {w : World} (hn : n ≤ 1048576) (h : Bs w a n c N) (h0 : N ≠ 0) : Calls Tryd.prog 11 #[.slice a n c] w fun e w' => e = .returned (.bool false) ∧ Upd0 w w' :=
  (izeroT_bs hn h).mono fun _ _ ⟨h1, h2⟩ => ⟨by rw [h1, decide_eq_false h0], by rw [h2]; exact .refl _ _⟩
set_option maxRecDepth 100000 in
set_option maxHeartbeats 1000000 in
theorem iTz_any {a : Option Addr} {n c N t : Nat} {w : World} (hn : n ≤ 100000) (h : Bs w a n c N) (ht : IsTz N t) (hT : TabAt w) :
    Calls Tryd.prog 6 #[.slice a n c] w fun e w' => e = .returned (.int .i64 t) ∧ Upd0 w w' := by
  have h0 := ht.pos
  have ht2 : t < 8 * n := by
    refine ht.lt ?_
    have := h.lt
    rw [pow8] at this
    exact this
  go_enter Tryd.func6, Tryd.ntmps6
  go_wp2_with fail
  with_reducible refine (iisZero_no (by omega) h h0).mono ?_
  rintro e w1 ⟨rfl, hu1⟩
  go_wp2_with fail
  with_reducible refine (free_bs (by omega) (h.keep hu1)).mono ?_
  rintro e w2 ⟨p, b, c2, rfl, hx2, hp2, hb2, hu2⟩
  go_wp2_with fail
  with_reducible refine (natTz_any hx2 ht ((hT.keep hu1).keep hu2)).mono ?_
  rintro e w3 ⟨rfl, rfl⟩
  go_wp2_with fail
  go_ret
  exact ⟨rfl, hu1.trans hu2⟩
set_option maxRecDepth 100000 in
set_option maxHeartbeats 1000000 in
theorem iTz_zero {a : Option Addr} {n c N : Nat} {w : World} (hn : n ≤ 100000) (h : Bs w a n c N) (h0 : N = 0) :
    Calls Tryd.prog 6 #[.slice a n c] w fun e w' => e = .returned (.int .i64 0) ∧ Upd0 w w' := by
  go_enter Tryd.func6, Tryd.ntmps6
  go_wp2_with fail
  with_reducible refine (iisZero_yes (by omega) h h0).mono ?_
  rintro e w1 ⟨rfl, hu1⟩
  go_wp2_with fail
  go_ret
  exact ⟨rfl, hu1⟩
set_option maxRecDepth 100000 in
set_option maxHeartbeats 1000000 in
theorem sTz_any {a : Option Addr} {n c N t : Nat} {w : World} (hn : n ≤ 10000) (h : Bs w a n c N) (ht : IsTz N t) :
    Calls Tryd.prog 7 #[.slice a n c] w fun e w' => e = .returned (.int .i64 t) ∧ Upd0 w w' := by
  have h0 := ht.pos
  have hnd := h.nd
  have ht2 : t < 8 * n := by
    refine ht.lt ?_
    have := h.lt
    rw [pow8] at this
    exact this
  go_enter Tryd.func7, Tryd.ntmps7
  go_wp2_with fail
  with_reducible refine (read_bs (by omega) h).mono ?_
  rintro e w1 ⟨a1, c1, rfl, hs1, hu1⟩
  go_wp2_with fail
  go_loopg [3, 4] t (fun k v o wr => ∃ (j Y : Nat) (a' : Option Addr) (c' : Nat), j + k = t ∧ o = .int .i64 (j : Nat) ∧ Hid (Y = N / 2 ^ j) ∧ v = .slice a' (nd Y) c' ∧ nd Y ≤ 10000 ∧ Sl .i64 wr a' (nd Y) c' (dg 65536 Y) ∧ Upd0 w wr)
  case atStart => exact ⟨0, N, a1, c1, by omega, rfl, by show _ = _; rw [Nat.pow_zero, Nat.div_one], rfl, by omega, hs1, hu1⟩
  case round =>
    clear hs1 hu1
    obtain ⟨j, Y, a', c', hj, rfl, hY, rfl, hndY, hs, hu⟩ := hrel
    have hY0 : Y ≠ 0 := by
      rw [hY.out]
      intro h
      have h1 := ht.odd
      rw [show t = j + (t - j) by omega, Nat.pow_add, ← Nat.div_div_eq_div_mul, h, Nat.zero_div] at h1
      cases h1
    have hndp : 0 < nd Y := nd_pos hY0
    by_cases hlt : j < t
    · have HE : Hid (decide (Y % 2 = 0) = true) := decide_eq_true (by rw [hY.out]; exact ht.next hlt)
      have HN : Hid (Y / 2 = N / 2 ^ (j + 1)) := by show _ = _; rw [hY.out, Nat.pow_succ, Nat.div_div_eq_div_mul]
      have ke := even_any a' c' Y wr (by omega) hs.rd
      rw [HE.out] at ke
      replace ke := Lib.hid ke
      have kd : Calls Tryd.prog 16 #[.slice a' (nd Y) c', .int .i64 2] wr (RetDiv wr (Y / 2) (Y % 2)) := (divided_any a' c' Y 2 wr (by omega) (by omega) (by omega) hs.rd)
      replace kd := Lib.hid kd
      have hq : nd (Y / 2) ≤ 10000 := Nat.le_trans (nd_mono (Nat.div_le_self _ _)) hndY
      go_wp2_with fail
      with_reducible refine ke.out.mono ?_
      rintro e w2 ⟨rfl, rfl⟩
      go_wp2_with fail
      with_reducible refine kd.out.mono ?_
      rintro e w3 ⟨a3, c3, rfl, hs3, hu3⟩
      go_wp2_with fail
      go_roundg (t - (j + 1))
      case measure => omega
      case rel => exact ⟨j + 1, Y / 2, a3, c3, by omega, by go_num, HN, rfl, hq, hs3, hu.trans hu3⟩
    · obtain rfl : j = t := by omega
      have HE : Hid (decide (Y % 2 = 0) = false) := decide_eq_false (by have := ht.odd; rw [← hY.out] at this; omega)
      have ke := even_any a' c' Y wr (by omega) hs.rd
      rw [HE.out] at ke
      replace ke := Lib.hid ke
      go_wp2_with fail
      with_reducible refine ke.out.mono ?_
      rintro e w2 ⟨rfl, rfl⟩
      go_wp2_with fail
      go_ret
      exact ⟨rfl, hu⟩
set_option maxRecDepth 100000 in
set_option maxHeartbeats 1000000 in
theorem sTz_zero {a : Option Addr} {n c N : Nat} {w : World} (hn : n ≤ 10000) (h : Bs w a n c N) (h0 : N = 0) :
    Calls Tryd.prog 7 #[.slice a n c] w fun e w' => e = .returned (.int .i64 0) ∧ Upd0 w w' := by
  subst h0
  go_enter Tryd.func7, Tryd.ntmps7
  go_wp2_with fail
  with_reducible refine (read_bs (by omega) h).mono ?_
  rintro e w1 ⟨a1, c1, rfl, hs1, hu1⟩
  go_wp2_with fail
  go_loopg [3, 4] 0 (fun k v o wr => ∃ (a' : Option Addr) (c' : Nat), o = .int .i64 0 ∧ v = .slice a' (nd 0) c' ∧ Upd0 w wr)
  case atStart => exact ⟨a1, c1, rfl, rfl, hu1⟩
  case round =>
    clear hs1 hu1
    obtain ⟨a', c', rfl, rfl, hu⟩ := hrel
    have hz : nd 0 = 0 := nd_zero
    go_wp2_with fail
    go_ret
    exact ⟨rfl, hu⟩
end Go.Proofs.YtgdjhkmofedhpaaDoor
