/-
  The contracts of impl.BitLen, spec.BitLen, laws.long, and the law FnExactBitLen.
-/
import Derived.Test.YtchgachankcfiaaNatB
namespace Go.Proofs.Ytchgachankcfiaa
open Go.RowKit

/-- The law holds: true is returned, and nothing that was there has changed. -/
def Holds1 (w : World) (e : Ending) (w' : World) : Prop := e = .returned (.bool true) ∧ Upd0 w w'

/-- What the row's frame tells of an argument that is a slice of bytes. -/
theorem sl_of_row {w : World} {a : Option Addr} {len cap : Nat} {zs : List Int}
    (h : (a = none ∧ len = 0 ∧ cap = 0 ∧ zs = []) ∨ ∃ x, a = some x ∧ len ≤ cap ∧ cap ≤ maxLen ∧ zs.length = cap ∧ (∀ i, i < zs.length → w.cell? (x.add i) = some (.int .u8 (zs.getD i 0))) ∧ ∀ n ∈ zs, (Lit.int .u8 n).wf = true) :
    ∃ f : Nat → Nat, (∀ i, i < len → f i < 256) ∧ Sl .u8 w a len cap f := by
  rcases h with ⟨rfl, rfl, rfl, rfl⟩ | ⟨x, rfl, hl, _, hz, hc, hw⟩
  · exact ⟨fun _ => 0, fun i hi => absurd hi (Nat.not_lt_zero i), .empty _ _ _⟩
  · have hwf : ∀ i, i < cap → 0 ≤ zs.getD i 0 ∧ zs.getD i 0 ≤ 255 := fun i hi => by
      have h1 : zs.getD i 0 ∈ zs := by
        rw [List.getD_eq_getElem?_getD, List.getElem?_eq_getElem (by omega)]
        exact List.getElem_mem _
      have h2 := hw _ h1
      generalize zs.getD i 0 = z at h2
      simp [Lit.wf, IntKind.min, IntKind.max, IntKind.signed, IntKind.bits] at h2
      omega
    refine ⟨fun i => (zs.getD i 0).toNat, fun i hi => by have := hwf i (by omega); show (zs.getD i 0).toNat < 256; omega, hl, fun i hi => ?_, fun e => by cases e⟩
    have h1 := hc i (by omega)
    have h2 := hwf i (by omega)
    cases hx : x.spot with
    | none =>
      obtain ⟨b, off, sp⟩ := x
      simp only at hx
      subst hx
      refine ⟨b, off, rfl, ?_⟩
      rw [Addr.add_mk] at h1
      rw [h1, Int.toNat_of_nonneg h2.1]
    | some s =>
      have h3 := hc 0 (by omega)
      have h4 : x.add 0 = x := by simp [Addr.add]
      rw [h4] at h3
      simp only [World.cell?, hx] at h3
      exfalso
      split at h3 <;> simp at h3
theorem i64_of_wf {x : Int} (h : (Lit.int .i64 x).wf = true) : -9223372036854775808 ≤ x ∧ x ≤ 9223372036854775807 := by
  simp [Lit.wf, IntKind.min, IntKind.max, IntKind.signed, IntKind.bits] at h
  omega

set_option maxHeartbeats 400000 in
theorem long_any (a : Option Addr) (n c : Nat) (w : World) :
    Calls Try.prog 11 #[.slice a n c] w fun e w' => e = .returned (.bool (decide (300 < n))) ∧ w = w' := by
  go_enter Try.func11, Try.ntmps11
  go_wp2
  go_ret
  exact ⟨ret_bool (by congr 1; simp; omega), rfl⟩

set_option maxHeartbeats 400000 in
theorem iBitLen_any (a : Option Addr) (n c : Nat) (f : Nat → Nat) (w : World) (hn : n ≤ 100000) (hf : ∀ i, i < n → f i < 256) (hs : Sl .u8 w a n c f) :
    Calls Try.prog 12 #[.slice a n c] w fun e w' => e = .returned (.int .i64 (blen (be f n))) ∧ Upd0 w w' := by
  go_enter Try.func12, Try.ntmps12
  go_wp2_with fail
  refine (free_any a n c f w hn hf hs).mono ?_
  rintro e w1 ⟨p, b, c1, rfl, hx, _, _, hu⟩
  go_wp2_with fail
  refine (bitLenVT_any _ _ _ _ _ _ hx).mono ?_
  rintro e w2 ⟨rfl, rfl⟩
  go_wp2_with fail
  go_ret
  exact ⟨rfl, hu⟩
theorem blen_le_bytes {f : Nat → Nat} {n : Nat} (hf : ∀ i, i < n → f i < 256) : blen (be f n) ≤ 8 * n := by
  rw [blen_le_iff, ← pow8]; exact be_lt hf
theorem nd_le_bytes {f : Nat → Nat} {n : Nat} (hf : ∀ i, i < n → f i < 256) : nd (be f n) ≤ n := by
  have := blen_le_bytes hf
  unfold nd; omega

set_option maxHeartbeats 400000 in
theorem sBitLen_any (a : Option Addr) (n c : Nat) (f : Nat → Nat) (w : World) (hn : n ≤ 100000) (hf : ∀ i, i < n → f i < 256) (hs : Sl .u8 w a n c f) :
    Calls Try.prog 13 #[.slice a n c] w fun e w' => e = .returned (.int .i64 (blen (be f n))) ∧ Upd0 w w' := by
  have hd := nd_le_bytes hf
  go_enter Try.func13, Try.ntmps13
  go_wp2_with fail
  refine (read_any a n c f w (by omega) hf hs.rd).mono ?_
  rintro e w1 ⟨a1, c1, rfl, hs1, hu⟩
  go_wp2_with fail
  refine (bits_any _ _ _ _ (by omega) hs1.rd).mono ?_
  rintro e w2 ⟨rfl, rfl⟩
  go_wp2_with fail
  go_ret
  exact ⟨rfl, hu⟩
set_option maxHeartbeats 400000 in
theorem law_FnExactBitLen (a : Option Addr) (n c : Nat) (f : Nat → Nat) (w : World) (hf : ∀ i, i < n → f i < 256) (hs : Sl .u8 w a n c f) :
    Calls Try.prog 3 #[.slice a n c] w (Holds1 w) := by
  by_cases h1 : 2147483647 < n
  · go_enter Try.func3, Try.ntmps3
    go_wp2
    go_ret
    exact ⟨rfl, .refl _ _⟩
  · by_cases h2 : 300 < n
    · have hd : decide (300 < n) = true := by simpa using h2
      have hd := Lib.hid hd
      go_enter Try.func3, Try.ntmps3
      go_wp2_with fail
      refine (long_any _ _ _ _).mono ?_
      rw [hd.out]
      rintro e w1 ⟨rfl, rfl⟩
      go_wp2
      go_ret
      exact ⟨rfl, .refl _ _⟩
    · have hd : decide (300 < n) = false := by simpa using h2
      have hd := Lib.hid hd
      go_enter Try.func3, Try.ntmps3
      go_wp2_with fail
      refine (long_any _ _ _ _).mono ?_
      rw [hd.out]
      rintro e w1 ⟨rfl, rfl⟩
      go_wp2_with fail
      refine (iBitLen_any _ _ _ _ _ (by omega) hf hs).mono ?_
      rintro e w1 ⟨rfl, hu1⟩
      go_wp2_with fail
      refine (sBitLen_any _ _ _ _ _ (by omega) hf (hs.keep hu1)).mono ?_
      rintro e w2 ⟨rfl, hu2⟩
      have hq : (((blen (be f n) : Nat) : Int) == ((blen (be f n) : Nat) : Int)) = true := by simp
      go_wp2
      go_ret
      exact ⟨ret_bool (by simp), hu1.trans hu2⟩
end Go.Proofs.Ytchgachankcfiaa
