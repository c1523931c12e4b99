/-
  Contracts: trim, set, expand.
  Contracts: expand, resetFor, ExpandFor, maybeSubtractModulus, Add, Sub.
  Contracts: Add, Sub, SubOne modulo m.
-/
import Derived.Test.YtgdjhkmofedhpaaDoorNatG
namespace Go.Proofs.YtgdjhkmofedhpaaDoor
open Go.RowKit

/-- How many limbs a number has. -/
def nl (X : Nat) : Nat := (blen X + 63) / 64
theorem nl_le_iff (n X : Nat) : nl X ≤ n ↔ X < W64 ^ n := by
  rw [powW, ← blen_le_iff]; unfold nl; omega
theorem lt_pow_nl (X : Nat) : X < W64 ^ nl X := (nl_le_iff _ X).1 (Nat.le_refl _)
theorem nl_pos {X : Nat} (h : X ≠ 0) : 0 < nl X := by have := blen_pos h; unfold nl; omega
theorem nl_mono {a b : Nat} (h : a ≤ b) : nl a ≤ nl b := by have := blen_mono h; unfold nl; omega
theorem nl_of_top {X n : Nat} (h : X < W64 ^ (n + 1)) (ht : dg W64 X n ≠ 0) : nl X = n + 1 := by
  have h1 := (nl_le_iff (n + 1) X).2 h
  have h2 : ¬ nl X ≤ n := fun h3 => ht (dg_of_lt ((nl_le_iff n X).1 h3))
  omega
theorem lt_of_no_top {X n : Nat} (h : X < W64 ^ (n + 1)) (ht : dg W64 X n = 0) : X < W64 ^ n := by
  have h1 := mod_succ W64 X n
  rw [Nat.mod_eq_of_lt h, ht, Nat.mul_zero, Nat.add_zero] at h1
  rw [h1]
  exact Nat.mod_lt _ (Nat.pow_pos W64_pos)
theorem nl_zero : nl 0 = 0 := rfl

/-- A number is cut to its first limbs. -/
theorem NatAt.cut {w : World} {p b c m X n : Nat} (hx : NatAt w p b c m X) (hn : n ≤ m) (hX : X < W64 ^ n) : NatAt (w.setCell ⟨p, 0, none⟩ (.slice (some ⟨b, 0, none⟩) n c)) p b c n X := by
  have hne : ∀ i, (⟨p, 0, none⟩ : Addr) ≠ ⟨b, i, none⟩ := fun i e => by cases e; exact hx.ne rfl
  exact ⟨World.cell?_setCell_same _ _ _ hx.hd, by rw [World.frozen?_setCell]; exact hx.hf, Nat.le_trans hn hx.le, hx.sm, hX,
    ⟨fun i hi => by rw [World.cell?_setCell_other _ _ _ _ (hne i)]; exact hx.own.cell i (by omega), fun i hi => by rw [World.frozen?_setCell]; exact hx.own.free i (by omega)⟩,
    fun i hi => by rw [World.cell?_setCell_other _ _ _ _ (hne i)]; exact hx.room i hi, fun i hi => by rw [World.frozen?_setCell]; exact hx.free i hi, hx.ne, by rw [World.size_setCell]; exact hx.hb⟩


end Go.Proofs.YtgdjhkmofedhpaaDoor

namespace Go.Proofs.YtgdjhkmofedhpaaDoor
open Go.RowKit

/-- At p lies a number, whose limbs may have got new memory. -/
def Grown (w : World) (p b n X : Nat) (w' : World) : Prop := ∃ b' c', NatAt w' p b' c' n X ∧ NewB w b b' ∧ Upd (fun k => k = p ∨ k = b) w w'

theorem NatAt.regrown {w w2 : World} {p b c m X n s : Nat} (hx : NatAt w p b c m X) (hmn : m ≤ n) (hn : n ≤ 65536) (hs : s = w.heap.size) (ho : Own .u64 w2 s n (fun i => if i < m then dg W64 X i else 0)) (hf : w2.frozen? ⟨p, 0, none⟩ = false) (hu : Upd0 w w2) (hs2 : s < w2.heap.size) :
    NatAt (w2.setCell ⟨p, 0, none⟩ (.slice (some ⟨s, 0, none⟩) n n)) p s n n X := by
  have hp := hx.hp
  have hne : ∀ i, (⟨p, 0, none⟩ : Addr) ≠ ⟨s, i, none⟩ := fun i e => by cases e; omega
  have hX : X < W64 ^ n := Nat.lt_of_lt_of_le hx.lt (Nat.pow_le_pow_right W64_pos hmn)
  have ho' : Own .u64 (w2.setCell ⟨p, 0, none⟩ (.slice (some ⟨s, 0, none⟩) n n)) s n (dg W64 X) :=
    ⟨fun i hi => by
      rw [World.cell?_setCell_other _ _ _ _ (hne i), ho.cell i hi]
      by_cases h : i < m
      · rw [if_pos h]
      · rw [if_neg h, dg_of_lt' W64_pos hx.lt (by omega)], fun i hi => by rw [World.frozen?_setCell]; exact ho.free i hi⟩
  exact ⟨World.cell?_setCell_same _ _ _ (hu.cell (p := ⟨p, 0, none⟩) id hx.hd), by rw [World.frozen?_setCell]; exact hf, Nat.le_refl _, hn, hX, ho',
    fun i hi => by rw [ho'.cell i hi]; rfl, ho'.free, by omega, by rw [World.size_setCell]; exact hs2⟩

theorem NatAt.stretched {w w' : World} {p b c m X n : Nat} (hx : NatAt w p b c m X) (hmn : m ≤ n) (hn : n ≤ c)
    (h1 : ∀ i, i < n - m → w'.cell? ⟨b, m + i, none⟩ = some (.int .u64 0)) (h2 : ∀ i, (i < m ∨ m + (n - m) ≤ i) → w'.cell? ⟨b, i, none⟩ = w.cell? ⟨b, i, none⟩) (h3 : ∀ x, w'.frozen? x = w.frozen? x) (hu : Upd (fun x => x = b) w w') :
    NatAt (w'.setCell ⟨p, 0, none⟩ (.slice (some ⟨b, 0, none⟩) n c)) p b c n X := by
  have hne : ∀ i, (⟨p, 0, none⟩ : Addr) ≠ ⟨b, i, none⟩ := fun i e => by cases e; exact hx.ne rfl
  have hX : X < W64 ^ n := Nat.lt_of_lt_of_le hx.lt (Nat.pow_le_pow_right W64_pos hmn)
  refine ⟨World.cell?_setCell_same _ _ _ (hu.cell (p := ⟨p, 0, none⟩) hx.ne hx.hd), by rw [World.frozen?_setCell, h3]; exact hx.hf, hn, hx.sm, hX, ⟨fun i hi => ?_, fun i hi => ?_⟩, fun i hi => ?_, fun i hi => ?_, hx.ne, ?_⟩
  · rw [World.cell?_setCell_other _ _ _ _ (hne i)]
    by_cases h : i < m
    · rw [h2 i (.inl h)]; exact hx.own.cell i h
    · have := h1 (i - m) (by omega)
      rw [show m + (i - m) = i by omega] at this
      rw [this, dg_of_lt' W64_pos hx.lt (by omega)]; rfl
  · rw [World.frozen?_setCell, h3]; exact hx.free i (by omega)
  · rw [World.cell?_setCell_other _ _ _ _ (hne i)]
    by_cases h : i < m ∨ m + (n - m) ≤ i
    · rw [h2 i h]; exact hx.room i hi
    · have := h1 (i - m) (by omega)
      rw [show m + (i - m) = i by omega] at this
      rw [this]; rfl
  · rw [World.frozen?_setCell, h3]; exact hx.free i hi
  · rw [World.size_setCell]; exact Nat.lt_of_lt_of_le hx.hb hu.size


/-- A modulus at mp, as far as its number goes. -/
structure MNat (w : World) (mp q b c n M : Nat) : Prop where
  hm : w.cell? ⟨mp, 0, none⟩ = some (.pointer (some ⟨q, 0, none⟩))
  nat : NatAt w q b c n M
theorem MNat.keep {S : Nat → Prop} {w w' : World} {mp q b c n M : Nat} (h : MNat w mp q b c n M) (hu : Upd S w w') (h0 : ¬ S mp) (h1 : ¬ S q) (h2 : ¬ S b) : MNat w' mp q b c n M :=
  ⟨hu.cell (p := ⟨mp, 0, none⟩) h0 h.hm, h.nat.keep hu h1 h2⟩
theorem MNat.keep0 {w w' : World} {mp q b c n M : Nat} (h : MNat w mp q b c n M) (hu : Upd0 w w') : MNat w' mp q b c n M := h.keep hu id id id
theorem MNat.hp {w : World} {mp q b c n M : Nat} (h : MNat w mp q b c n M) : mp < w.heap.size := World.block_lt_of_cell? _ _ h.hm


/-- What maybeSubtractModulus leaves. -/
def msN (n always X M : Nat) : Nat := selN (max (1 - ltN X M) always) X (subN n X M)
theorem msN_lt {n always X M : Nat} (hX : X < W64 ^ n) : msN n always X M < W64 ^ n := selN_lt hX (subN_lt _ _ _)
/-- X if it is below M, and X - M otherwise. -/
def redN (X M : Nat) : Nat := if M ≤ X then X - M else X
theorem msN_eq {n T M : Nat} (hM : M < W64 ^ n) (hT : T < M + W64 ^ n) : msN n (T / W64 ^ n) (T % W64 ^ n) M = redN T M := by
  have hp : 0 < W64 ^ n := Nat.pow_pos W64_pos
  unfold msN redN ltN
  generalize hu : W64 ^ n = u at *
  rcases Nat.lt_or_ge T u with h | h
  · rw [Nat.div_eq_of_lt h, Nat.mod_eq_of_lt h]
    by_cases h2 : M ≤ T
    · rw [if_neg (by omega), if_pos h2, ← subN_le (n := n) (by omega) h2]; rfl
    · rw [if_pos (by omega), if_neg h2]; rfl
  · have h1 : T / u = 1 := by
      rw [Nat.div_eq_iff hp]; omega
    have h2 : T % u = T - u := by
      rw [Nat.mod_eq_sub_mod h, Nat.mod_eq_of_lt (by omega)]
    rw [h1, h2, if_pos (show M ≤ T by omega), if_pos (show T - u < M by omega)]
    show subN n (T - u) M = _
    rw [subN_gt (by omega) (by omega), hu]
    omega
theorem redN_mod {T M : Nat} (h : T < 2 * M) : redN T M = T % M := by
  unfold redN
  by_cases h1 : M ≤ T
  · rw [if_pos h1, Nat.mod_eq_sub_mod h1, Nat.mod_eq_of_lt (by omega)]
  · rw [if_neg h1, Nat.mod_eq_of_lt (by omega)]

end Go.Proofs.YtgdjhkmofedhpaaDoor

namespace Go.Proofs.YtgdjhkmofedhpaaDoor
open Go.RowKit


/-- X - Y, and M more where that is below 0. -/
def mdN (X Y M : Nat) : Nat := if Y ≤ X then X - Y else X + M - Y
theorem mdN_eq {n X Y M : Nat} (hX : X < W64 ^ n) (hY : Y < W64 ^ n) (hM : M < W64 ^ n) (h : Y ≤ X + M) : selN (ltN X Y) (subN n X Y) ((subN n X Y + M) % W64 ^ n) = mdN X Y M := by
  unfold mdN ltN
  by_cases h1 : Y ≤ X
  · rw [if_neg (by omega), if_pos h1, selN_zero, subN_le hX h1]
  · rw [if_pos (by omega), if_neg h1, selN_one, subN_gt hY (by omega)]
    rw [show X + W64 ^ n - Y + M = (X + M - Y) + W64 ^ n by omega, Nat.add_mod_right, Nat.mod_eq_of_lt (by omega)]
theorem mdN_mod {X Y M : Nat} (hX : X < M) (hY : Y ≤ M) : mdN X Y M = (X + M - Y) % M := by
  unfold mdN
  by_cases h1 : Y ≤ X
  · rw [if_pos h1, show X + M - Y = (X - Y) + M by omega, Nat.add_mod_right, Nat.mod_eq_of_lt (by omega)]
  · rw [if_neg h1, Nat.mod_eq_of_lt (by omega)]

end Go.Proofs.YtgdjhkmofedhpaaDoor
