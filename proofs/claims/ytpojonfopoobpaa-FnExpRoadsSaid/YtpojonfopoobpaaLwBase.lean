/-
  The contracts of the laws' own small functions: same, zero, odd.
  The contracts of impl.BitLen, spec.BitLen, laws.long, and the law FnExactBitLen.
  The contracts of impl.ShiftRightOne and the law FnExactShiftRightOne.
  The contract of impl.ShiftRight and the laws FnExactShiftRight, FnShiftSteps.
  Bytes as numbers: the words in which the contracts of the thin package, of the reference and the laws speak of bytes.
  The small contracts of the laws in the words of Bs, each for one answer.
-/
import Derived.Test.YtpojonfopoobpaaImplA
import Derived.Test.YtpojonfopoobpaaNatD
namespace Go.Proofs.Ytpojonfopoobpaa
open Go.RowKit

/-- Whether two lists of bytes are the same. -/
def sameB (n m : Nat) (f g : Nat → Nat) : Bool := decide (n = m ∧ ∀ i, i < n → f i = g i)
theorem sameB_true {n m : Nat} {f g : Nat → Nat} (h1 : n = m) (h2 : ∀ i, i < n → f i = g i) : sameB n m f g = true := decide_eq_true ⟨h1, h2⟩
theorem sameB_false {n m : Nat} {f g : Nat → Nat} (h : n = m → ∃ i, i < n ∧ f i ≠ g i) : sameB n m f g = false :=
  decide_eq_false fun ⟨h1, h2⟩ => by obtain ⟨i, hi, hne⟩ := h h1; exact hne (h2 i hi)

set_option maxHeartbeats 400000 in
theorem same_any (a a' : Option Addr) (n m c c' : Nat) (f g : Nat → Nat) (w : World) (hn : n ≤ 1048576) (hf : ∀ i, i < n → f i < 256) (hg : ∀ i, i < m → g i < 256) (hs : Rd .u8 w a n f) (hs' : Rd .u8 w a' m g) :
    Calls Try.prog 24 #[.slice a n c, .slice a' m c'] w fun e w' => e = .returned (.bool (sameB n m f g)) ∧ ∃ k, w' = w.drewN k := by
  by_cases hne : n = m
  · subst hne
    have hq : ((n : Int) != (n : Int)) = false := by simp
    have HF := Lib.hid hf
    have HG := Lib.hid hg
    clear hf hg
    go_enter Try.func24, Try.ntmps24
    go_wp2
    go_loopw [5] (fun i wr => ∃ k q : Nat, k ≤ n ∧ i = .int .i64 k ∧ Hid (∀ i, i < k → f i = g i) ∧ wr = w.drewN q) (fun i _ => n - (intOf i).toNat)
    case atStart => exact ⟨0, 0, Nat.zero_le _, rfl, fun i hi => absurd hi (Nat.not_lt_zero i), rfl⟩
    case round =>
      obtain ⟨k, q, hk, rfl, HE, rfl⟩ := hrel
      by_cases hlt : k < n
      · obtain ⟨b, off, d, rfl, hcell, hd, HD⟩ := byte_cell hs HF.out hlt
        obtain ⟨b', off', d', rfl, hcell', hd', HD'⟩ := byte_cell hs' HG.out hlt
        have i1 : (k : Int) < (n : Int) := by omega
        have i2 : (0 : Int) ≤ (k : Int) := by omega
        have i3 : ((k : Int)).toNat = k := by omega
        by_cases hdd : d = d'
        · subst hdd
          have hq2 : ((d : Int) != (d : Int)) = false := by simp
          go_wp2_with fail
          go_quiet (fail)
          go_wp2_with fail
          go_roundw
          case rel => exact ⟨k + 1, _, by omega, by go_num, fun i hi => by
            by_cases e : i = k
            · subst e; rw [← HD.out, ← HD'.out]
            · exact HE.out i (by omega), rfl⟩
          case measure => simp [intOf]; omega
        · have hq2 : ((d : Int) != (d' : Int)) = true := by rw [bne_iff_ne]; omega
          have HN : Hid (sameB n n f g = false) := sameB_false fun _ => ⟨k, hlt, by rw [← HD.out, ← HD'.out]; exact hdd⟩
          go_wp2_with fail
          go_quiet (fail)
          go_wp2_with fail
          go_ret
          exact ⟨ret_bool HN.out.symm, _, by rw [World.drewN_drewN]⟩
      · obtain rfl : k = n := by omega
        have HY : Hid (sameB k k f g = true) := sameB_true rfl HE.out
        go_wp2
        go_ret
        exact ⟨ret_bool HY.out.symm, q, rfl⟩
  · have hq : ((n : Int) != (m : Int)) = true := by rw [bne_iff_ne]; omega
    have HN : Hid (sameB n m f g = false) := sameB_false fun h => absurd h hne
    clear hs hs' hf hg
    go_enter Try.func24, Try.ntmps24
    go_wp2
    go_ret
    exact ⟨ret_bool HN.out.symm, 0, rfl⟩

/-- Whether all bytes are 0. -/
theorem be_zero_iff (f : Nat → Nat) (n : Nat) : be f n = 0 ↔ ∀ i, i < n → f i = 0 := be_eq_zero

set_option maxHeartbeats 400000 in
theorem zero_any (a : Option Addr) (n c : Nat) (f : Nat → Nat) (w : World) (hn : n ≤ 1048576) (hf : ∀ i, i < n → f i < 256) (hs : Rd .u8 w a n f) :
    Calls Try.prog 36 #[.slice a n c] w fun e w' => e = .returned (.bool (decide (be f n = 0))) ∧ w = w' := by
  have HF := Lib.hid hf
  clear hf
  have HB : Hid (be f n = 0 ↔ ∀ i, i < n → f i = 0) := be_eq_zero
  go_enter Try.func36, Try.ntmps36
  go_wp2
  go_loop [3] (fun i => ∃ k : Nat, k ≤ n ∧ i = .int .i64 k ∧ Hid (∀ i, i < k → f i = 0)) (fun i => n - (intOf i).toNat)
  case atStart => exact ⟨0, Nat.zero_le _, rfl, fun i hi => absurd hi (Nat.not_lt_zero i)⟩
  case round =>
    obtain ⟨k, hk, rfl, HE⟩ := hrel
    by_cases hlt : k < n
    · obtain ⟨b, off, d, rfl, hcell, hd, HD⟩ := byte_cell hs HF.out hlt
      by_cases hz : d = 0
      · subst hz
        have hq2 : ((0 : Int) != 0) = false := by simp
        go_wp2
        go_round
        case rel => exact ⟨k + 1, by omega, by go_num, fun i hi => by
            by_cases e : i = k
            · subst e; rw [← HD.out]
            · exact HE.out i (by omega)⟩
        case measure => simp [intOf]; omega
      · have hq2 : ((d : Int) != 0) = true := by rw [bne_iff_ne]; omega
        have HN : Hid (decide (be f n = 0) = false) := decide_eq_false fun h => hz (by rw [HD.out]; exact HB.out.1 h k hlt)
        go_wp2
        go_ret
        exact ⟨ret_bool HN.out.symm, rfl⟩
    · obtain rfl : k = n := by omega
      have HY : Hid (decide (be f k = 0) = true) := decide_eq_true (HB.out.2 HE.out)
      go_wp2
      go_ret
      exact ⟨ret_bool HY.out.symm, rfl⟩

theorem be_odd {f : Nat → Nat} {n : Nat} (h : 0 < n) : be f n % 2 = f (n - 1) % 2 := by
  obtain ⟨m, rfl⟩ : ∃ m, n = m + 1 := ⟨n - 1, by omega⟩
  simp only [be, Nat.add_sub_cancel]; omega

set_option maxHeartbeats 400000 in
theorem odd_any (a : Option Addr) (n c : Nat) (f : Nat → Nat) (w : World) (hn : n ≤ 1048576) (hf : ∀ i, i < n → f i < 256) (hs : Rd .u8 w a n f) :
    Calls Try.prog 28 #[.slice a n c] w fun e w' => e = .returned (.bool (decide (be f n % 2 = 1))) ∧ w = w' := by
  by_cases h0 : n = 0
  · subst h0
    go_enter Try.func28, Try.ntmps28
    go_wp2
    go_ret
    exact ⟨rfl, rfl⟩
  · obtain ⟨m, rfl⟩ : ∃ m, n = m + 1 := ⟨n - 1, by omega⟩
    have HB : Hid (be f (m + 1) % 2 = f m % 2) := be_odd (n := m + 1) (by omega)
    obtain ⟨b, off, d, rfl, hcell, hd, HD⟩ := byte_cell hs hf (show m < m + 1 by omega)
    clear hs hf
    by_cases h2 : d % 2 = 1
    · have hq : ((d : Int) % 2 == 1) = true := by rw [beq_iff_eq]; omega
      have HY : Hid (decide (be f (m + 1) % 2 = 1) = true) := decide_eq_true (by rw [HB.out, ← HD.out]; exact h2)
      go_enter Try.func28, Try.ntmps28
      go_wp2
      go_ret
      exact ⟨ret_bool HY.out.symm, rfl⟩
    · have hq : ((d : Int) % 2 == 1) = false := by rw [beq_eq_false_iff_ne]; omega
      have HN : Hid (decide (be f (m + 1) % 2 = 1) = false) := decide_eq_false (by rw [HB.out, ← HD.out]; exact h2)
      go_enter Try.func28, Try.ntmps28
      go_wp2
      go_ret
      exact ⟨ret_bool HN.out.symm, rfl⟩
end Go.Proofs.Ytpojonfopoobpaa

namespace Go.Proofs.Ytpojonfopoobpaa
open Go.RowKit

/-- The law holds: true is returned, and nothing that was there has changed. -/
def Holds1 (w : World) (e : Ending) (w' : World) : Prop := e = .returned (.bool true) ∧ Upd0 w w'

/-- What the row's frame tells of an argument that is a slice of bytes. -/
theorem sl_of_row {w : World} {a : Option Addr} {len cap : Nat} {zs : List Int}
    (h : (a = none ∧ len = 0 ∧ cap = 0 ∧ zs = []) ∨ ∃ x, a = some x ∧ len ≤ cap ∧ cap ≤ maxLen ∧ zs.length = cap ∧ (∀ i, i < zs.length → w.cell? (x.add i) = some (.int .u8 (zs.getD i 0))) ∧ ∀ n ∈ zs, (Lit.int .u8 n).wf = true) :
    ∃ f : Nat → Nat, (∀ i, i < len → f i < 256) ∧ Sl .u8 w a len cap f := by
  rcases h with ⟨rfl, rfl, rfl, rfl⟩ | ⟨x, rfl, hl, _, hz, hc, hw⟩
  · exact ⟨fun _ => 0, fun i hi => absurd hi (Nat.not_lt_zero i), .empty _ _ _⟩
  · have hwf : ∀ i, i < cap → 0 ≤ zs.getD i 0 ∧ zs.getD i 0 ≤ 255 := fun i hi => by
      have h1 : zs.getD i 0 ∈ zs := by
        rw [List.getD_eq_getElem?_getD, List.getElem?_eq_getElem (by omega)]
        exact List.getElem_mem _
      have h2 := hw _ h1
      generalize zs.getD i 0 = z at h2
      simp [Lit.wf, IntKind.min, IntKind.max, IntKind.signed, IntKind.bits] at h2
      omega
    refine ⟨fun i => (zs.getD i 0).toNat, fun i hi => by have := hwf i (by omega); show (zs.getD i 0).toNat < 256; omega, hl, fun i hi => ?_, fun e => by cases e⟩
    have h1 := hc i (by omega)
    have h2 := hwf i (by omega)
    cases hx : x.spot with
    | none =>
      obtain ⟨b, off, sp⟩ := x
      simp only at hx
      subst hx
      refine ⟨b, off, rfl, ?_⟩
      rw [Addr.add_mk] at h1
      rw [h1, Int.toNat_of_nonneg h2.1]
    | some s =>
      have h3 := hc 0 (by omega)
      have h4 : x.add 0 = x := by simp [Addr.add]
      rw [h4] at h3
      simp only [World.cell?, hx] at h3
      exfalso
      split at h3 <;> simp at h3
theorem i64_of_wf {x : Int} (h : (Lit.int .i64 x).wf = true) : -9223372036854775808 ≤ x ∧ x ≤ 9223372036854775807 := by
  simp [Lit.wf, IntKind.min, IntKind.max, IntKind.signed, IntKind.bits] at h
  omega

set_option maxHeartbeats 400000 in
theorem long_any (a : Option Addr) (n c : Nat) (w : World) :
    Calls Try.prog 30 #[.slice a n c] w fun e w' => e = .returned (.bool (decide (300 < n))) ∧ w = w' := by
  go_enter Try.func30, Try.ntmps30
  go_wp2
  go_ret
  exact ⟨ret_bool (by congr 1; simp; omega), rfl⟩

set_option maxHeartbeats 400000 in
theorem iBitLen_any (a : Option Addr) (n c : Nat) (f : Nat → Nat) (w : World) (hn : n ≤ 100000) (hf : ∀ i, i < n → f i < 256) (hs : Sl .u8 w a n c f) :
    Calls Try.prog 40 #[.slice a n c] w fun e w' => e = .returned (.int .i64 (blen (be f n))) ∧ Upd0 w w' := by
  go_enter Try.func40, Try.ntmps40
  go_wp2_with fail
  refine (free_any a n c f w hn hf hs).mono ?_
  rintro e w1 ⟨p, b, c1, rfl, hx, _, _, hu⟩
  go_wp2_with fail
  refine (bitLenVT_any _ _ _ _ _ _ hx).mono ?_
  rintro e w2 ⟨rfl, rfl⟩
  go_wp2_with fail
  go_ret
  exact ⟨rfl, hu⟩
theorem blen_le_bytes {f : Nat → Nat} {n : Nat} (hf : ∀ i, i < n → f i < 256) : blen (be f n) ≤ 8 * n := by
  rw [blen_le_iff, ← pow8]; exact be_lt hf
theorem nd_le_bytes {f : Nat → Nat} {n : Nat} (hf : ∀ i, i < n → f i < 256) : nd (be f n) ≤ n := by
  have := blen_le_bytes hf
  unfold nd; omega

set_option maxHeartbeats 400000 in
theorem sBitLen_any (a : Option Addr) (n c : Nat) (f : Nat → Nat) (w : World) (hn : n ≤ 100000) (hf : ∀ i, i < n → f i < 256) (hs : Sl .u8 w a n c f) :
    Calls Try.prog 45 #[.slice a n c] w fun e w' => e = .returned (.int .i64 (blen (be f n))) ∧ Upd0 w w' := by
  have hd := nd_le_bytes hf
  go_enter Try.func45, Try.ntmps45
  go_wp2_with fail
  refine (read_any a n c f w (by omega) hf hs.rd).mono ?_
  rintro e w1 ⟨a1, c1, rfl, hs1, hu⟩
  go_wp2_with fail
  refine (bits_any _ _ _ _ (by omega) hs1.rd).mono ?_
  rintro e w2 ⟨rfl, rfl⟩
  go_wp2_with fail
  go_ret
  exact ⟨rfl, hu⟩
end Go.Proofs.Ytpojonfopoobpaa

namespace Go.Proofs.Ytpojonfopoobpaa
open Go.RowKit

/-- The bytes of N, without zeros ahead. -/
abbrev bytesN (N : Nat) : Nat → Nat := fun i => dg 256 N (nb N - 1 - i)
theorem bytesN_lt (N i : Nat) : bytesN N i < 256 := dg_lt (by omega) _ _
theorem be_bytesN (N : Nat) : be (bytesN N) (nb N) = N := be_of_dg (lt_pow_nb N)

end Go.Proofs.Ytpojonfopoobpaa

namespace Go.Proofs.Ytpojonfopoobpaa
open Go.RowKit

set_option maxHeartbeats 400000 in
theorem iShiftRight_any (a : Option Addr) (n c k : Nat) (f : Nat → Nat) (w : World) (hn : n ≤ 100000) (hk : k ≤ 9223372036854775807) (hf : ∀ i, i < n → f i < 256) (hs : Sl .u8 w a n c f) :
    Calls Try.prog 48 #[.slice a n c, .int .i64 k] w (RetBytes w (nb (be f n / 2 ^ k)) (bytesN (be f n / 2 ^ k))) := by
  go_enter Try.func48, Try.ntmps48
  go_wp2_with fail
  refine (free_any a n c f w hn hf hs).mono ?_
  rintro e w1 ⟨p, b, c1, rfl, hx, hp, hb, hu⟩
  go_wp2_with fail
  refine (shiftRightVT_any _ _ _ _ _ _ _ hx (by omega)).mono ?_
  rintro e w2 ⟨rfl, hx2, hu2⟩
  go_wp2_with fail
  refine (told_any _ _ _ _ _ _ hx2).mono ?_
  rintro e w3 ⟨a3, c3, rfl, hs3, hu3⟩
  go_wp2_with fail
  go_ret
  exact ⟨a3, c3, rfl, hs3, (hu.then hu2 (fun i hi h => by omega)).trans hu3⟩

set_option maxHeartbeats 400000 in
theorem iShiftRight_neg (a : Option Addr) (n c : Nat) (z : Int) (w : World) (hz : z < 0) :
    Calls Try.prog 48 #[.slice a n c, .int .i64 z] w fun e w' => e = .returned (.slice none 0 0) ∧ w = w' := by
  go_enter Try.func48, Try.ntmps48
  go_wp2
  go_ret
  exact ⟨rfl, rfl⟩
theorem nb_quot_le {f : Nat → Nat} {n : Nat} (hf : ∀ i, i < n → f i < 256) (d : Nat) : nb (be f n / d) ≤ n :=
  (nb_le_iff n _).2 (Nat.lt_of_le_of_lt (Nat.div_le_self _ _) (be_lt hf))
theorem nb_le_bytes {f : Nat → Nat} {n : Nat} (hf : ∀ i, i < n → f i < 256) : nb (be f n) ≤ n := (nb_le_iff n _).2 (be_lt hf)
theorem iShiftRight_num (a : Option Addr) (M c k : Nat) (w : World) (hn : nb M ≤ 100000) (hk : k ≤ 9223372036854775807) (hs : Sl .u8 w a (nb M) c (bytesN M)) :
    Calls Try.prog 48 #[.slice a (nb M) c, .int .i64 k] w (RetBytes w (nb (M / 2 ^ k)) (bytesN (M / 2 ^ k))) := by
  have h := iShiftRight_any a (nb M) c k (bytesN M) w hn hk (fun i _ => bytesN_lt M i) hs
  rw [be_bytesN] at h
  exact h
theorem iBitLen_num (a : Option Addr) (M c : Nat) (w : World) (hn : nb M ≤ 100000) (hs : Sl .u8 w a (nb M) c (bytesN M)) :
    Calls Try.prog 40 #[.slice a (nb M) c] w fun e w' => e = .returned (.int .i64 (blen M)) ∧ Upd0 w w' := by
  have h := iBitLen_any a (nb M) c (bytesN M) w hn (fun i _ => bytesN_lt M i) hs
  rw [be_bytesN] at h
  exact h
end Go.Proofs.Ytpojonfopoobpaa

namespace Go.Proofs.Ytpojonfopoobpaa
open Go.RowKit

/-- A slice of n bytes, whose number is N. -/
def Bs (w : World) (a : Option Addr) (n c N : Nat) : Prop := ∃ f : Nat → Nat, (∀ i, i < n → f i < 256) ∧ Sl .u8 w a n c f ∧ be f n = N
theorem Bs.mk' {w : World} {a : Option Addr} {n c : Nat} {f : Nat → Nat} (hf : ∀ i, i < n → f i < 256) (hs : Sl .u8 w a n c f) : Bs w a n c (be f n) := ⟨f, hf, hs, rfl⟩
theorem Bs.keep {w w' : World} {a : Option Addr} {n c N : Nat} (h : Bs w a n c N) (hu : Upd0 w w') : Bs w' a n c N := by
  obtain ⟨f, h1, h2, h3⟩ := h
  exact ⟨f, h1, h2.keep hu, h3⟩
theorem Bs.lt {w : World} {a : Option Addr} {n c N : Nat} (h : Bs w a n c N) : N < 256 ^ n := by
  obtain ⟨f, h1, h2, h3⟩ := h
  rw [← h3]; exact be_lt h1
theorem Bs.nb {w : World} {a : Option Addr} {n c N : Nat} (h : Bs w a n c N) : nb N ≤ n := (nb_le_iff n N).2 h.lt
theorem Bs.blen {w : World} {a : Option Addr} {n c N : Nat} (h : Bs w a n c N) : blen N ≤ 8 * n := by rw [blen_le_iff, ← pow8]; exact h.lt
theorem Bs.nd {w : World} {a : Option Addr} {n c N : Nat} (h : Bs w a n c N) : nd N ≤ n := by have := h.blen; unfold Proofs.Ytpojonfopoobpaa.nd; omega
theorem Bs.of_dg {w : World} {a : Option Addr} {s c N : Nat} (h : Sl .u8 w a s c (fun i => dg 256 N (s - 1 - i))) (hN : N < 256 ^ s) : Bs w a s c N :=
  ⟨_, fun i _ => dg_lt (by omega) _ _, h, be_of_dg hN⟩
theorem Bs.of_nb {w : World} {a : Option Addr} {c N : Nat} (h : Sl .u8 w a (Proofs.Ytpojonfopoobpaa.nb N) c (fun i => dg 256 N (Proofs.Ytpojonfopoobpaa.nb N - 1 - i))) : Bs w a (Proofs.Ytpojonfopoobpaa.nb N) c N := .of_dg h (lt_pow_nb N)
theorem Bs.emp (w : World) : Bs w none 0 0 0 := ⟨fun _ => 0, fun i hi => absurd hi (Nat.not_lt_zero i), .empty _ _ _, rfl⟩
/-- The bytes of N in s places are known. -/
theorem Bs.sl {w : World} {a : Option Addr} {n c N : Nat} (h : Bs w a n c N) : Sl .u8 w a n c (fun i => dg 256 N (n - 1 - i)) := by
  obtain ⟨f, h1, h2, h3⟩ := h
  refine h2.congr fun i hi => ?_
  rw [← h3, be_dg h1 (n - 1 - i) (by omega)]
  congr 1; omega
theorem Bs.f_lt (N n : Nat) : ∀ i, i < n → (fun i => dg 256 N (n - 1 - i)) i < 256 := fun i _ => dg_lt (by omega) _ _

/-- Bytes, and whether there are any, are returned. -/
def RetOpt (w : World) (o : Option (Nat × Nat)) (e : Ending) (w' : World) : Prop :=
  match o with
  | none => e = .returned (.tuple #[.slice none 0 0, .bool false]) ∧ Upd0 w w'
  | some (s, N) => ∃ a c, e = .returned (.tuple #[.slice a s c, .bool true]) ∧ Bs w' a s c N ∧ Upd0 w w'
/-- A number, and whether there is one, are returned. -/
def RetInt (w : World) (o : Option Nat) (e : Ending) (w' : World) : Prop :=
  match o with
  | none => e = .returned (.tuple #[.int .i64 0, .bool false]) ∧ Upd0 w w'
  | some N => e = .returned (.tuple #[.int .i64 N, .bool true]) ∧ Upd0 w w'
/-- Bytes alone are returned. -/
def RetBs (w : World) (s N : Nat) (e : Ending) (w' : World) : Prop := ∃ a c, e = .returned (.slice a s c) ∧ Bs w' a s c N ∧ Upd0 w w'

theorem be_inj {f g : Nat → Nat} {n : Nat} (hf : ∀ i, i < n → f i < 256) (hg : ∀ i, i < n → g i < 256) (h : be f n = be g n) : ∀ i, i < n → f i = g i := by
  intro i hi
  have h1 := be_dg hf (n - 1 - i) (by omega)
  have h2 := be_dg hg (n - 1 - i) (by omega)
  rw [show n - 1 - (n - 1 - i) = i by omega] at h1 h2
  rw [← h1, ← h2, h]
theorem sameB_iff {n m : Nat} {f g : Nat → Nat} (hf : ∀ i, i < n → f i < 256) (hg : ∀ i, i < m → g i < 256) : sameB n m f g = decide (n = m ∧ be f n = be g m) := by
  unfold sameB
  refine decide_eq_decide.2 ⟨fun ⟨h1, h2⟩ => ⟨h1, by subst h1; exact be_congr h2⟩, fun ⟨h1, h2⟩ => ⟨h1, by subst h1; exact be_inj hf hg h2⟩⟩
/-- The law's comparison of bytes. -/
theorem same_bs {a a' : Option Addr} {n m c c' N M : Nat} {w : World} (hn : n ≤ 1048576) (h : Bs w a n c N) (h' : Bs w a' m c' M) :
    Calls Try.prog 24 #[.slice a n c, .slice a' m c'] w fun e w' => e = .returned (.bool (decide (n = m ∧ N = M))) ∧ Upd0 w w' := by
  obtain ⟨f, h1, h2, rfl⟩ := h
  obtain ⟨g, h3, h4, rfl⟩ := h'
  refine (same_any a a' n m c c' f g w hn h1 h3 h2.rd h4.rd).mono fun e w' ⟨h5, k, h6⟩ => ⟨?_, ?_⟩
  · rw [h5, sameB_iff h1 h3]
  · rw [h6]; exact (Upd.refl _ _).drewN k
theorem same_eq {a a' : Option Addr} {n c c' N : Nat} {w : World} (hn : n ≤ 1048576) (h : Bs w a n c N) (h' : Bs w a' n c' N) :
    Calls Try.prog 24 #[.slice a n c, .slice a' n c'] w fun e w' => e = .returned (.bool true) ∧ Upd0 w w' := by
  have := same_bs hn h h'
  simpa using this
theorem zero_bs {a : Option Addr} {n c N : Nat} {w : World} (hn : n ≤ 1048576) (h : Bs w a n c N) :
    Calls Try.prog 36 #[.slice a n c] w fun e w' => e = .returned (.bool (decide (N = 0))) ∧ w = w' := by
  obtain ⟨f, h1, h2, rfl⟩ := h
  exact zero_any a n c f w hn h1 h2.rd
theorem odd_bs {a : Option Addr} {n c N : Nat} {w : World} (hn : n ≤ 1048576) (h : Bs w a n c N) :
    Calls Try.prog 28 #[.slice a n c] w fun e w' => e = .returned (.bool (decide (N % 2 = 1))) ∧ w = w' := by
  obtain ⟨f, h1, h2, rfl⟩ := h
  exact odd_any a n c f w hn h1 h2.rd
theorem read_bs {a : Option Addr} {n c N : Nat} {w : World} (hn : n ≤ 1000000) (h : Bs w a n c N) :
    Calls Try.prog 77 #[.slice a n c] w (RetNum w N) := by
  obtain ⟨f, h1, h2, rfl⟩ := h
  exact read_any a n c f w hn h1 h2.rd
theorem free_bs {a : Option Addr} {n c N : Nat} {w : World} (hn : n ≤ 100000) (h : Bs w a n c N) :
    Calls Try.prog 69 #[.slice a n c] w (RetFree w N) := by
  obtain ⟨f, h1, h2, rfl⟩ := h
  exact free_any a n c f w hn h1 h2
end Go.Proofs.Ytpojonfopoobpaa

namespace Go.Proofs.Ytpojonfopoobpaa
open Go.RowKit

theorem nb_mono {a b : Nat} (h : a ≤ b) : nb a ≤ nb b := by have := blen_mono h; unfold nb; omega
theorem Bs.one (w : World) (d : Nat) (hd : d < 256) (t : Nat) : Bs (w.alloc (.cells #[.int .u8 (d : Nat)] t)) (some ⟨w.heap.size, 0, none⟩) 1 1 d :=
  ⟨fun _ => d, fun _ _ => hd, ⟨Nat.le_refl _, Rd.one rfl, fun e => by cases e⟩, by simp [be]⟩
theorem Bs.first {w : World} {a : Option Addr} {c N : Nat} (h : Bs w a 1 c N) : ∃ b off, a = some ⟨b, off, none⟩ ∧ w.cell? ⟨b, off, none⟩ = some (.int .u8 (N : Nat)) := by
  obtain ⟨f, h1, h2, h3⟩ := h
  obtain ⟨b, off, e, hc⟩ := h2.rd 0 (by omega)
  refine ⟨b, off, e, ?_⟩
  rw [Nat.add_zero] at hc
  rw [hc, ← h3]
  simp [be]
theorem long_yes {a : Option Addr} {n c N : Nat} {w : World} (h : 300 < n) (_h : Bs w a n c N) : Calls Try.prog 30 #[.slice a n c] w fun e w' => e = .returned (.bool true) ∧ Upd0 w w' :=
  (long_any a n c w).mono fun _ _ ⟨h1, h2⟩ => ⟨by rw [h1, decide_eq_true h], by rw [h2]; exact .refl _ _⟩
theorem long_no {a : Option Addr} {n c N : Nat} {w : World} (h : ¬ 300 < n) (_h : Bs w a n c N) : Calls Try.prog 30 #[.slice a n c] w fun e w' => e = .returned (.bool false) ∧ Upd0 w w' :=
  (long_any a n c w).mono fun _ _ ⟨h1, h2⟩ => ⟨by rw [h1, decide_eq_false h], by rw [h2]; exact .refl _ _⟩
theorem zero_yes {a : Option Addr} {n c N : Nat} {w : World} (hn : n ≤ 1048576) (h : Bs w a n c N) (h0 : N = 0) : Calls Try.prog 36 #[.slice a n c] w fun e w' => e = .returned (.bool true) ∧ Upd0 w w' :=
  (zero_bs hn h).mono fun _ _ ⟨h1, h2⟩ => ⟨by rw [h1, decide_eq_true h0], by rw [h2]; exact .refl _ _⟩
theorem zero_no {a : Option Addr} {n c N : Nat} {w : World} (hn : n ≤ 1048576) (h : Bs w a n c N) (h0 : ¬ N = 0) : Calls Try.prog 36 #[.slice a n c] w fun e w' => e = .returned (.bool false) ∧ Upd0 w w' :=
  (zero_bs hn h).mono fun _ _ ⟨h1, h2⟩ => ⟨by rw [h1, decide_eq_false h0], by rw [h2]; exact .refl _ _⟩
theorem odd_yes {a : Option Addr} {n c N : Nat} {w : World} (hn : n ≤ 1048576) (h : Bs w a n c N) (h0 : ¬ ¬ N % 2 = 1) : Calls Try.prog 28 #[.slice a n c] w fun e w' => e = .returned (.bool true) ∧ Upd0 w w' :=
  (odd_bs hn h).mono fun _ _ ⟨h1, h2⟩ => ⟨by rw [h1, decide_eq_true (by omega)], by rw [h2]; exact .refl _ _⟩
theorem odd_no {a : Option Addr} {n c N : Nat} {w : World} (hn : n ≤ 1048576) (h : Bs w a n c N) (h0 : ¬ N % 2 = 1) : Calls Try.prog 28 #[.slice a n c] w fun e w' => e = .returned (.bool false) ∧ Upd0 w w' :=
  (odd_bs hn h).mono fun _ _ ⟨h1, h2⟩ => ⟨by rw [h1, decide_eq_false h0], by rw [h2]; exact .refl _ _⟩
theorem iShiftRight_bs {a : Option Addr} {n c N : Nat} (k : Nat) {w : World} (hn : n ≤ 100000) (hk : k ≤ 9223372036854775807) (h : Bs w a n c N) : Calls Try.prog 48 #[.slice a n c, .int .i64 k] w (RetBs w (nb (N / 2 ^ k)) (N / 2 ^ k)) := by
  obtain ⟨f, h1, h2, rfl⟩ := h
  exact (iShiftRight_any a n c k f w hn hk h1 h2).mono fun _ _ ⟨a1, c1, h3, h4, h5⟩ => ⟨a1, c1, h3, .of_nb h4, h5⟩
theorem iShiftRight_zero {a : Option Addr} {n c N : Nat} {w : World} (hn : n ≤ 100000) (h : Bs w a n c N) : Calls Try.prog 48 #[.slice a n c, .int .i64 0] w (RetBs w (nb N) N) := by
  have := iShiftRight_bs 0 hn (by omega) h
  rw [Nat.pow_zero, Nat.div_one] at this
  exact this
end Go.Proofs.Ytpojonfopoobpaa
