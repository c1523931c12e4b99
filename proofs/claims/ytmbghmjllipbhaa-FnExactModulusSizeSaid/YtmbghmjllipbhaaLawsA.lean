/-
  The contracts of impl.BitLen, spec.BitLen, laws.long, and the law FnExactBitLen.
-/
import Derived.Test.YtmbghmjllipbhaaNatB
namespace Go.Proofs.Ytmbghmjllipbhaa
open Go.RowKit

/-- The law holds: true is returned, and nothing that was there has changed. -/
def Holds1 (w : World) (e : Ending) (w' : World) : Prop := e = .returned (.bool true) ∧ Upd0 w w'

/-- What the row's frame tells of an argument that is a slice of bytes. -/
theorem sl_of_row {w : World} {a : Option Addr} {len cap : Nat} {zs : List Int}
    (h : (a = none ∧ len = 0 ∧ cap = 0 ∧ zs = []) ∨ ∃ x, a = some x ∧ len ≤ cap ∧ cap ≤ maxLen ∧ zs.length = cap ∧ (∀ i, i < zs.length → w.cell? (x.add i) = some (.int .u8 (zs.getD i 0))) ∧ ∀ n ∈ zs, (Lit.int .u8 n).wf = true) :
    ∃ f : Nat → Nat, (∀ i, i < len → f i < 256) ∧ Sl .u8 w a len cap f := by
  rcases h with ⟨rfl, rfl, rfl, rfl⟩ | ⟨x, rfl, hl, _, hz, hc, hw⟩
  · exact ⟨fun _ => 0, fun i hi => absurd hi (Nat.not_lt_zero i), .empty _ _ _⟩
  · have hwf : ∀ i, i < cap → 0 ≤ zs.getD i 0 ∧ zs.getD i 0 ≤ 255 := fun i hi => by
      have h1 : zs.getD i 0 ∈ zs := by
        rw [List.getD_eq_getElem?_getD, List.getElem?_eq_getElem (by omega)]
        exact List.getElem_mem _
      have h2 := hw _ h1
      generalize zs.getD i 0 = z at h2
      simp [Lit.wf, IntKind.min, IntKind.max, IntKind.signed, IntKind.bits] at h2
      omega
    refine ⟨fun i => (zs.getD i 0).toNat, fun i hi => by have := hwf i (by omega); show (zs.getD i 0).toNat < 256; omega, hl, fun i hi => ?_, fun e => by cases e⟩
    have h1 := hc i (by omega)
    have h2 := hwf i (by omega)
    cases hx : x.spot with
    | none =>
      obtain ⟨b, off, sp⟩ := x
      simp only at hx
      subst hx
      refine ⟨b, off, rfl, ?_⟩
      rw [Addr.add_mk] at h1
      rw [h1, Int.toNat_of_nonneg h2.1]
    | some s =>
      have h3 := hc 0 (by omega)
      have h4 : x.add 0 = x := by simp [Addr.add]
      rw [h4] at h3
      simp only [World.cell?, hx] at h3
      exfalso
      split at h3 <;> simp at h3
theorem i64_of_wf {x : Int} (h : (Lit.int .i64 x).wf = true) : -9223372036854775808 ≤ x ∧ x ≤ 9223372036854775807 := by
  simp [Lit.wf, IntKind.min, IntKind.max, IntKind.signed, IntKind.bits] at h
  omega

set_option maxHeartbeats 400000 in
theorem long_any (a : Option Addr) (n c : Nat) (w : World) :
    Calls Try.prog 30 #[.slice a n c] w fun e w' => e = .returned (.bool (decide (300 < n))) ∧ w = w' := by
  go_enter Try.func30, Try.ntmps30
  go_wp2
  go_ret
  exact ⟨ret_bool (by congr 1; simp; omega), rfl⟩

set_option maxHeartbeats 400000 in
theorem iBitLen_any (a : Option Addr) (n c : Nat) (f : Nat → Nat) (w : World) (hn : n ≤ 100000) (hf : ∀ i, i < n → f i < 256) (hs : Sl .u8 w a n c f) :
    Calls Try.prog 50 #[.slice a n c] w fun e w' => e = .returned (.int .i64 (blen (be f n))) ∧ Upd0 w w' := by
  go_enter Try.func50, Try.ntmps50
  go_wp2_with fail
  refine (free_any a n c f w hn hf hs).mono ?_
  rintro e w1 ⟨p, b, c1, rfl, hx, _, _, hu⟩
  go_wp2_with fail
  refine (bitLenVT_any _ _ _ _ _ _ hx).mono ?_
  rintro e w2 ⟨rfl, rfl⟩
  go_wp2_with fail
  go_ret
  exact ⟨rfl, hu⟩
end Go.Proofs.Ytmbghmjllipbhaa
