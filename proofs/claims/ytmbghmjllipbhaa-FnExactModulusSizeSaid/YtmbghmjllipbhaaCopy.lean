/-
  copy, as the walk of a drawn region asks it.
-/
import Derived.Test.YtmbghmjllipbhaaMont
namespace Go.Proofs.Ytmbghmjllipbhaa
open Go.RowKit

theorem run_copy_ints {P : Program} {w : World} (ty dT sT elem : TypeId) (hu : P.underlying dT = some (.slice elem)) (hsz : (P.info? elem).map (·.size) = some 1)
    (k : IntKind) (b dn dc : Nat) (f : Nat → Nat) (hown : Own k w b dn f)
    (ax : Option Addr) (m cx : Nat) (g : Nat → Nat) (hg : Rd k w ax m g) :
    ∃ w', (Builtin.copy_ #[dT, sT] ty #[.slice (some ⟨b, 0, none⟩) dn dc, .slice ax m cx]).run P w = .ok (goInt (Nat.min m dn)) w' ∧ Own k w' b dn (fun i => if i < m then g i else f i) ∧ (∀ i, dn ≤ i → w'.cell? ⟨b, i, none⟩ = w.cell? ⟨b, i, none⟩) ∧ (∀ x, w'.frozen? x = w.frozen? x) ∧ Upd (fun x => x = b) w w' := by
  by_cases h0 : Nat.min m dn = 0
  · refine ⟨w, ?_, hown.congr (fun i hi => ?_), fun _ _ => rfl, fun _ => rfl, .refl _ _⟩
    · rw [h0]; exact run_copy_none w dT sT ty elem _ _ dn dc m cx hu hsz h0
    · have : m = 0 := by
        have h1 : min m dn = 0 := h0
        omega
      rw [if_neg (by omega)]
  · have hm : 0 < m := by
      rcases Nat.eq_zero_or_pos m with h1 | h1
      · exact absurd (show Nat.min m dn = 0 by rw [h1]; exact Nat.zero_min dn) h0
      · exact h1
    obtain ⟨bx, off, rfl, hc⟩ := hg.open hm
    have hr := run_copy_cells (P := P) w dT sT ty elem b 0 dn dc ⟨bx, off, none⟩ m cx ((List.range (Nat.min m dn)).map fun i => Value.int k (g i)) hu hsz (by simp)
      (fun j v hj => by
        have hjm : j < Nat.min m dn := by
          have := (List.getElem?_eq_some_iff.1 hj).1
          simpa using this
        have hjm' : j < m := Nat.lt_of_lt_of_le hjm (Nat.min_le_left m dn)
        rw [Addr.add_mk, hc j hjm']
        simpa [hjm] using hj)
      (fun j hj => by
        rw [Nat.zero_add, hown.cell j (Nat.lt_of_lt_of_le (by simpa using hj) (Nat.min_le_right m dn))]; rfl)
      (fun j hj => by rw [Nat.zero_add]; exact hown.free j (Nat.lt_of_lt_of_le (by simpa using hj) (Nat.min_le_right m dn)))
      (fun u hu => by obtain ⟨j, _, rfl⟩ := List.mem_map.1 hu; rfl)
    rw [List.length_map, List.length_range] at hr
    refine ⟨_, hr, (own_setCells hown (Nat.min_le_right m dn)).congr (fun i hi => ?_), fun i hi => ?_, fun x => World.frozen?_setCells _ _ _ _ _, Upd.setCells (S := fun x => x = b) b (fun _ => rfl) _ 0 w (.refl _ _)⟩
    rotate_left
    · refine World.cell?_setCells_out b _ 0 w _ (fun _ _ => ?_)
      right
      simp only [List.length_map, List.length_range, Nat.zero_add]
      exact Nat.le_trans (Nat.min_le_right m dn) hi
    have : (i < Nat.min m dn) ↔ i < m := by
      have e : Nat.min m dn = min m dn := rfl
      rw [e]; omega
    by_cases h' : i < m
    · rw [if_pos h', if_pos (this.2 h')]
    · rw [if_neg h', if_neg (fun h'' => h' (this.1 h''))]

end Go.Proofs.Ytmbghmjllipbhaa
