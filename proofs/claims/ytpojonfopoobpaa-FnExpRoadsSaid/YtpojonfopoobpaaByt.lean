/-
  Contracts: Nat.Bytes, Modulus.Nat.
-/
import Derived.Test.YtpojonfopoobpaaModI
namespace Go.Proofs.Ytpojonfopoobpaa
open Go.RowKit

/-- Behind 8 l + j bytes: the bytes from the end on. -/
def byF (X sz q : Nat) : Nat → Nat := fun i => if sz - q ≤ i then dg 256 X (sz - 1 - i) else 0
theorem byF_zero (X sz i : Nat) (hi : i < sz) : byF X sz 0 i = 0 := by unfold byF; rw [if_neg (by omega)]
theorem byF_step {X sz q : Nat} (hq : q < sz) (i : Nat) (_hi : i < sz) : (if i = sz - 1 - q then dg 256 X q else byF X sz q i) = byF X sz (q + 1) i := by
  unfold byF
  by_cases e : i = sz - 1 - q
  · subst e
    rw [if_pos rfl, if_pos (by omega)]
    congr 1; omega
  · rw [if_neg e]
    by_cases e2 : sz - q ≤ i
    · rw [if_pos e2, if_pos (by omega)]
    · rw [if_neg e2, if_neg (by omega)]
theorem byF_all {X sz q : Nat} (hq : sz ≤ q) (i : Nat) : byF X sz q i = dg 256 X (sz - 1 - i) := by unfold byF; rw [if_pos (by omega)]
/-- Byte j of limb l. -/
theorem limb_byte (X l j : Nat) (hj : j < 8) : dg W64 X l / 256 ^ j % 256 = dg 256 X (8 * l + j) := by
  unfold dg
  have e1 : W64 ^ l = 256 ^ (8 * l) := by rw [W64_256, ← Nat.pow_mul]
  rw [e1, Nat.pow_add, ← Nat.div_div_eq_div_mul]
  generalize X / 256 ^ (8 * l) = z
  have e2 : W64 = 256 ^ j * (256 * 256 ^ (7 - j)) := by
    rw [W64_256, ← Nat.pow_succ', ← Nat.pow_add]
    congr 1; omega
  rw [e2, Nat.mod_mul_right_div_self, Nat.mod_mul_right_mod]
/-- At the head of the outer loop. -/
def ByOut (w : World) (tb sz n X k : Nat) (s t : Value) (wr : World) : Prop :=
  ∃ l, l + k = n ∧ t = .int .i64 (l : Nat) ∧ (l < n → s = .int .i64 ((sz : Int) - 8 * (l : Int))) ∧ Own .u8 wr tb sz (byF X sz (8 * l)) ∧ Upd0 w wr
/-- At the head of the inner loop. -/
def ByIn (w : World) (tb sz X l k : Nat) (s d t : Value) (wr : World) : Prop :=
  ∃ j r z, j + k = 8 ∧ r + 8 * l + j = sz ∧ t = .int .i64 (j : Nat) ∧ s = .int .i64 (r : Nat) ∧ d = .int .u64 (z : Nat) ∧ z = dg W64 X l / 256 ^ j ∧ Own .u8 wr tb sz (byF X sz (8 * l + j)) ∧ Upd0 w wr
set_option maxRecDepth 100000 in
set_option maxHeartbeats 4000000 in
theorem bytes_le (p b c n X s mp M : Nat) (w : World) (hx : NatAt w p b c n X) (hm : ModAt w s mp n M) (hX : X ≤ M) :
    Calls Try.prog 58 #[.pointer (some ⟨p, 0, none⟩), .pointer (some ⟨mp, 0, none⟩)] w (RetBs w (nb M) X) := by
  have hcell := hx.hd
  have hle := hx.le
  have hsm := hx.sm
  have hbl := hm.bl
  have hn := hm.hn
  have hbp : 0 < blen M := blen_pos (by have := hm.h1; omega)
  obtain ⟨sz, Hsz⟩ : ∃ sz, Hid (sz = nb M) := ⟨_, rfl⟩
  have hs1 : sz ≤ 8 * n := by rw [Hsz.out, hn]; unfold nb nl; omega
  have hs2 : 8 * n < sz + 8 := by rw [Hsz.out, hn]; unfold nb nl; omega
  have hs3 : sz ≤ 600000 := by omega
  have HX : Hid (X < 256 ^ sz) := by rw [Hsz.out]; exact Nat.lt_of_le_of_lt hX (lt_pow_nb M)
  have k1 := mSize hm
  rw [← Hsz.out] at k1
  rw [← Hsz.out]
  replace k1 := Lib.hid k1
  have hmk := make_u8 sz (by omega)
  clear hn hbl hbp hX hm
  go_enter Try.func58, Try.ntmps58
  go_wp2_with fail
  with_reducible refine k1.out.mono ?_
  rintro e w' ⟨rfl, rfl⟩
  have hO0 : Own .u8 (w.alloc (.cells (madeCells #[.int .u8 0] sz) 5)) w.heap.size sz (byF X sz (8 * 0)) := (Own.made .u8 w sz 5).congr fun i hi => (byF_zero X sz i hi).symm
  have hu0 : Upd0 w (w.alloc (.cells (madeCells #[.int .u8 0] sz) 5)) := (Upd.refl _ _).alloc _
  have hcell0 := hu0.cell (p := ⟨p, 0, none⟩) id hcell
  go_wp2_with fail
  generalize w.alloc (.cells (madeCells #[.int .u8 0] sz) 5) = w0 at *
  clear hcell hcell0 hmk k1
  go_loopg [5, 19] n (fun k s t wr => ByOut w w.heap.size sz n X k s t wr)
  case atStart => exact ⟨0, by omega, rfl, fun _ => by simp, hO0, hu0⟩
  case round =>
    clear hO0 hu0
    obtain ⟨l, hlk, rfl, hs, hO, hu⟩ := hrel
    by_cases hlt : l < n
    · obtain ⟨r0, hr0⟩ : ∃ r0 : Nat, r0 + 8 * l = sz := ⟨sz - 8 * l, by omega⟩
      have hs' := hs hlt
      rw [show (sz : Int) - 8 * (l : Int) = (r0 : Int) by omega] at hs'
      clear hs
      subst hs'
      obtain ⟨d, hc1, hd, HD⟩ := (hx.keep0 hu).limb hlt
      have i1 : (l : Int) < (n : Int) := by omega
      go_wp2_with fail
      go_loopg [5, 8, 9] 8 (fun k s d t wq => ByIn w w.heap.size sz X l k s d t wq)
      case atStart => exact ⟨0, r0, d, by omega, by omega, rfl, rfl, rfl, by rw [Nat.pow_zero, Nat.div_one]; exact HD.out, hO, hu⟩
      case round =>
        clear hO hu hc1 HD
        obtain ⟨j, r, z, hj, hr, rfl, rfl, rfl, hz, hO, hu⟩ := hrel
        replace hz := Lib.hid hz
        by_cases hj8 : j < 8
        · rcases Nat.eq_zero_or_pos r with h0 | h0
          · subst h0
            have hz0 : z = 0 := by
              rw [hz.out]
              have h1 : X / W64 ^ l < 256 ^ j := by
                refine Nat.div_lt_of_lt_mul ?_
                rw [W64_256, ← Nat.pow_mul, ← Nat.pow_add, show 8 * l + j = sz by omega]
                exact HX.out
              exact Nat.div_eq_of_lt (Nat.lt_of_le_of_lt (Nat.mod_le _ _) h1)
            subst hz0
            go_wp2_with fail
            go_roundg (n - (l + 1))
            case measure => omega
            case rel => exact ⟨l + 1, by omega, by go_num, fun h => by omega, hO.congr (fun i hi => by rw [byF_all (by omega), byF_all (by omega)]), hu⟩
          · have hB : Hid (z % 256 = dg 256 X (8 * l + j)) := by show _ = _; rw [hz.out]; exact limb_byte X l j hj8
            have hzl : z < 18446744073709551616 := by rw [hz.out]; exact Nat.lt_of_le_of_lt (Nat.div_le_self _ _) (limb_lt _ _)
            have hcr := hO.cell (r - 1) (by omega)
            have hfr := hO.free (r - 1) (by omega)
            have k0 : (0 : Int) < (r : Int) := by omega
            have k1 : (0 : Int) ≤ (r : Int) - 1 := by omega
            have k2 : (r : Int) - 1 < (sz : Int) := by omega
            have k3 : ((r : Int) - 1).toNat = r - 1 := by omega
            have k4 : (1 : Int) ≤ (r : Int) := by omega
            go_wp2_with fail
            go_roundg (8 - (j + 1))
            case measure => omega
            case rel => exact ⟨j + 1, r - 1, z / 256, by omega, by omega, by go_num, by go_num, by go_num, by rw [hz.out, Nat.div_div_eq_div_mul, ← Nat.pow_succ], by
              have h1 := hO.set (i := r - 1) (by omega) (dg 256 X (8 * l + j))
              rw [← hB.out, show ((z % 256 : Nat) : Int) = (z : Int) % 256 by omega, hB.out] at h1
              exact h1.congr (fun i hi => by rw [show 8 * l + (j + 1) = 8 * l + j + 1 by omega, ← byF_step (by omega) i hi, show sz - 1 - (8 * l + j) = r - 1 by omega]), hu.setCell _ _ (fun h => by exact absurd h (Nat.lt_irrefl _))⟩
        · obtain rfl : j = 8 := by omega
          go_wp2_with fail
          go_roundg (n - (l + 1))
          case measure => omega
          case rel => exact ⟨l + 1, by omega, by go_num, fun _ => by congr 1; omega, hO, hu⟩
    · obtain rfl : l = n := by omega
      go_wp2_with fail
      go_ret
      exact ⟨_, _, rfl, .of_dg ((hO.congr (fun i _ => byF_all (by omega) i)).sl (Nat.le_refl _)) HX.out, hu⟩
theorem bytes_any (p b c n X s mp M : Nat) (w : World) (hx : NatAt w p b c n X) (hm : ModAt w s mp n M) (hX : X < M) :
    Calls Try.prog 58 #[.pointer (some ⟨p, 0, none⟩), .pointer (some ⟨mp, 0, none⟩)] w (RetBs w (nb M) X) := bytes_le p b c n X s mp M w hx hm (Nat.le_of_lt hX)
end Go.Proofs.Ytpojonfopoobpaa
