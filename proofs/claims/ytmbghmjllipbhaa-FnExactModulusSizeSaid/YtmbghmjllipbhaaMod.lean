/-
  A modulus in memory, and what the Montgomery multiplication does with it.
-/
import Derived.Test.YtmbghmjllipbhaaMontB
import Derived.Test.YtmbghmjllipbhaaNumB
namespace Go.Proofs.Ytmbghmjllipbhaa
open Go.RowKit

/-- A modulus M of n limbs at mp; all of its blocks lie below s. -/
structure ModAt (w : World) (s mp n M : Nat) : Prop where
  ex : ∃ q b c, MNat w mp q b c n M ∧ q < s ∧ b < s
  hp : mp < s
  hs : s ≤ w.heap.size
  hn : n = nl M
  h1 : 1 < M
  hn2 : n ≤ 16384
  odd : w.cell? ⟨mp, 1, none⟩ = some (.bool (decide (M % 2 = 1)))
  mont : M % 2 = 1 → ∃ k pr br cr, w.cell? ⟨mp, 2, none⟩ = some (.int .u64 (k : Nat)) ∧ (k * M + 1) % W64 = 0 ∧ w.cell? ⟨mp, 3, none⟩ = some (.pointer (some ⟨pr, 0, none⟩)) ∧ NatAt w pr br cr n (W64 ^ n * W64 ^ n % M) ∧ pr < s ∧ br < s
theorem ModAt.keep {S : Nat → Prop} {w w' : World} {s mp n M : Nat} (h : ModAt w s mp n M) (hu : Upd S w w') (hS : ∀ k, k < s → ¬ S k) : ModAt w' s mp n M where
  ex := by
    obtain ⟨q, b, c, h1, h2, h3⟩ := h.ex
    exact ⟨q, b, c, h1.keep hu (hS _ h.hp) (hS _ h2) (hS _ h3), h2, h3⟩
  hp := h.hp
  hs := Nat.le_trans h.hs hu.size
  hn := h.hn
  h1 := h.h1
  hn2 := h.hn2
  odd := hu.cell (p := ⟨mp, 1, none⟩) (hS _ h.hp) h.odd
  mont := fun ho => by
    obtain ⟨k, pr, br, cr, h1, h2, h3, h4, h5, h6⟩ := h.mont ho
    exact ⟨k, pr, br, cr, hu.cell (p := ⟨mp, 2, none⟩) (hS _ h.hp) h1, h2, hu.cell (p := ⟨mp, 3, none⟩) (hS _ h.hp) h3, h4.keep hu (hS _ h5) (hS _ h6), h5, h6⟩
theorem ModAt.keep0 {w w' : World} {s mp n M : Nat} (h : ModAt w s mp n M) (hu : Upd0 w w') : ModAt w' s mp n M := h.keep hu (fun _ _ h => h)
theorem ModAt.lt {w : World} {s mp n M : Nat} (h : ModAt w s mp n M) : M < W64 ^ n := by rw [h.hn]; exact lt_pow_nl M
theorem ModAt.npos {w : World} {s mp n M : Nat} (h : ModAt w s mp n M) : 0 < n := by rw [h.hn]; exact nl_pos (by have := h.h1; omega)
theorem ModAt.up {w : World} {s s' mp n M : Nat} (h : ModAt w s mp n M) (hs : s ≤ s') (hs' : s' ≤ w.heap.size) : ModAt w s' mp n M where
  ex := by
    obtain ⟨q, b, c, h1, h2, h3⟩ := h.ex
    exact ⟨q, b, c, h1, by omega, by omega⟩
  hp := by have := h.hp; omega
  hs := hs'
  hn := h.hn
  h1 := h.h1
  hn2 := h.hn2
  odd := h.odd
  mont := fun ho => by
    obtain ⟨k, pr, br, cr, h1, h2, h3, h4, h5, h6⟩ := h.mont ho
    exact ⟨k, pr, br, cr, h1, h2, h3, h4, by omega, by omega⟩

/-- At p lies a number of n limbs, in blocks from lo on. -/
structure NumAt (w : World) (lo p b n X : Nat) : Prop where
  ex : ∃ c, NatAt w p b c n X
  hp : lo ≤ p
  hb : lo ≤ b
end Go.Proofs.Ytmbghmjllipbhaa
