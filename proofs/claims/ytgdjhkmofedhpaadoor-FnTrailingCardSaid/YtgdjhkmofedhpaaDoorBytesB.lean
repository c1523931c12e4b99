/-
  Contracts: beUint32, beUint64, bigEndianUint, setBytes.
  Contracts: setBytes, resetToBytes.
-/
import Derived.Test.YtgdjhkmofedhpaaDoorNatJ
import Derived.Deep.DeepCutAuto
import Derived.Deep.CutBlock
namespace Go.Proofs.YtgdjhkmofedhpaaDoor
open Go.RowKit

/-- 'or' on 32 bits, where the parts do not meet. -/
theorem bits_or32 {x d s : Nat} (hx : x < 2 ^ s) (h : x + d * 2 ^ s < 4294967296) : bits .or .u32 (x : Int) (IntKind.u32.wrap ((d : Int) * 2 ^ s)) = ((x + d * 2 ^ s : Nat) : Int) := by
  have e1 : IntKind.u32.wrap ((d : Int) * 2 ^ s) = ((d * 2 ^ s : Nat) : Int) := by
    rw [show ((d : Int) * 2 ^ s) = ((d * 2 ^ s : Nat) : Int) by simp]
    exact IntWalk.u32_in _ (by omega)
  rw [e1]
  have hb : ∀ z : Nat, z < 4294967296 → (BitVec.ofInt 32 (z : Int)).toNat = z := fun z hz => by
    rw [BitVec.ofInt_natCast, BitVec.toNat_ofNat]; exact Nat.mod_eq_of_lt hz
  have h2 : (BitVec.ofInt 32 (x : Int) ||| BitVec.ofInt 32 ((d * 2 ^ s : Nat) : Int)).toNat = x + d * 2 ^ s := by
    rw [BitVec.toNat_or, hb _ (by omega), hb _ (by omega)]
    have := or_shift (d := d) hx
    rwa [Nat.shiftLeft_eq] at this
  show IntKind.u32.wrap ((BitVec.ofInt 32 (x : Int) ||| BitVec.ofInt 32 ((d * 2 ^ s : Nat) : Int)).toNat : Int) = _
  rw [h2, IntWalk.u32_in _ (by omega)]
theorem bits_or32' {x d s : Nat} (hx : x < 2 ^ s) (h : x + d * 2 ^ s < 4294967296) : bits .or .u32 (x : Int) ((d : Int) * 2 ^ s) = ((x + d * 2 ^ s : Nat) : Int) := by
  have e := bits_or32 hx h
  rwa [show IntKind.u32.wrap ((d : Int) * 2 ^ s) = (d : Int) * 2 ^ s by
    rw [show ((d : Int) * 2 ^ s) = ((d * 2 ^ s : Nat) : Int) by simp]
    exact IntWalk.u32_in _ (by omega)] at e
theorem or32_a {a b : Nat} (ha : a < 256) (hb : b < 256) : bits .or .u32 (a : Int) ((b : Int) * 256) = ((a + b * 256 : Nat) : Int) := bits_or32' (s := 8) ha (by omega)
theorem or32_b {a b : Nat} (ha : a < 65536) (hb : b < 256) : bits .or .u32 (a : Int) ((b : Int) * 65536) = ((a + b * 65536 : Nat) : Int) := bits_or32' (s := 16) ha (by omega)
theorem or32_c {a b : Nat} (ha : a < 16777216) (hb : b < 256) : bits .or .u32 (a : Int) ((b : Int) * 16777216) = ((a + b * 16777216 : Nat) : Int) := bits_or32' (s := 24) ha (by omega)

theorem quiet_drew {P : Program} {f : FuncId} {args : Array Value} {w : World} {n : Nat} {v : Value}
    (h : Calls P f args (w.drewN n) fun e w' => e = .returned v ∧ ∃ k, w' = (w.drewN n).drewN k) : Calls P f args (w.drewN n) fun e w'' => e = .returned v ∧ ∃ m, w'' = w.drewN m :=
  h.mono fun _ _ ⟨he, k, hm⟩ => ⟨he, n + k, by rw [hm, World.drewN_drewN]⟩
end Go.Proofs.YtgdjhkmofedhpaaDoor

namespace Go.Proofs.YtgdjhkmofedhpaaDoor
open Go.RowKit

theorem be_append (f : Nat → Nat) (m : Nat) : ∀ k, be f (m + k) = be f m * 256 ^ k + be (fun i => f (m + i)) k
  | 0 => by simp [be]
  | k + 1 => by
    rw [← Nat.add_assoc]
    simp only [be]
    rw [be_append f m k, Nat.pow_succ, Nat.add_mul, Nat.mul_assoc]
    omega
theorem W64_256 : W64 = 256 ^ 8 := rfl
/-- Limb j out of the bytes. -/
theorem be_limb {f : Nat → Nat} {r j n : Nat} (hn : r + 8 * j = n) (hr : 8 ≤ r) (hf : ∀ i, i < n → f i < 256) : be (fun i => f (r - 8 + i)) 8 = dg W64 (be f n) j := by
  subst hn
  have h1 : be (fun i => f (r + i)) (8 * j) < 256 ^ (8 * j) := be_lt (fun i hi => hf _ (by omega))
  have h2 : be (fun i => f (r - 8 + i)) 8 < 256 ^ 8 := be_lt (fun i hi => hf _ (by omega))
  have h3 := be_append f (r - 8) 8
  rw [show r - 8 + 8 = r by omega] at h3
  unfold dg
  rw [W64_256, ← Nat.pow_mul, be_append f r (8 * j), Nat.mul_comm (be f r), Nat.mul_add_div (Nat.pow_pos (by omega)), Nat.div_eq_of_lt h1, Nat.add_zero, h3, Nat.mul_comm (be f (r - 8)), Nat.mul_add_mod, Nat.mod_eq_of_lt h2]
/-- One more limb. -/
theorem limb_more (N j t : Nat) : (if t = j then dg W64 N j else dg W64 (N % 256 ^ (8 * j)) t) = dg W64 (N % 256 ^ (8 * (j + 1))) t := by
  have e : ∀ i, (256 : Nat) ^ (8 * i) = W64 ^ i := fun i => by rw [Nat.pow_mul]; rfl
  rw [e, e]
  by_cases h : t = j
  · subst h
    rw [if_pos rfl, dg_mod_lt W64_pos (by omega)]
  · rw [if_neg h]
    by_cases h2 : t < j
    · rw [dg_mod_lt W64_pos h2, dg_mod_lt W64_pos (by omega)]
    · rw [dg_mod_ge W64_pos (by omega), dg_mod_ge W64_pos (by omega)]

end Go.Proofs.YtgdjhkmofedhpaaDoor
