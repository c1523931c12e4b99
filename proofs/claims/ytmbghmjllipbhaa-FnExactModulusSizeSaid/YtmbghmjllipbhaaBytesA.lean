/-
  Contracts: beUint32, beUint64, bigEndianUint, setBytes.
-/
import Derived.Test.YtmbghmjllipbhaaNatJ
import Derived.Deep.DeepCutAuto
import Derived.Deep.CutBlock
namespace Go.Proofs.Ytmbghmjllipbhaa
open Go.RowKit

/-- 'or' on 32 bits, where the parts do not meet. -/
theorem bits_or32 {x d s : Nat} (hx : x < 2 ^ s) (h : x + d * 2 ^ s < 4294967296) : bits .or .u32 (x : Int) (IntKind.u32.wrap ((d : Int) * 2 ^ s)) = ((x + d * 2 ^ s : Nat) : Int) := by
  have e1 : IntKind.u32.wrap ((d : Int) * 2 ^ s) = ((d * 2 ^ s : Nat) : Int) := by
    rw [show ((d : Int) * 2 ^ s) = ((d * 2 ^ s : Nat) : Int) by simp]
    exact IntWalk.u32_in _ (by omega)
  rw [e1]
  have hb : ∀ z : Nat, z < 4294967296 → (BitVec.ofInt 32 (z : Int)).toNat = z := fun z hz => by
    rw [BitVec.ofInt_natCast, BitVec.toNat_ofNat]; exact Nat.mod_eq_of_lt hz
  have h2 : (BitVec.ofInt 32 (x : Int) ||| BitVec.ofInt 32 ((d * 2 ^ s : Nat) : Int)).toNat = x + d * 2 ^ s := by
    rw [BitVec.toNat_or, hb _ (by omega), hb _ (by omega)]
    have := or_shift (d := d) hx
    rwa [Nat.shiftLeft_eq] at this
  show IntKind.u32.wrap ((BitVec.ofInt 32 (x : Int) ||| BitVec.ofInt 32 ((d * 2 ^ s : Nat) : Int)).toNat : Int) = _
  rw [h2, IntWalk.u32_in _ (by omega)]
theorem bits_or32' {x d s : Nat} (hx : x < 2 ^ s) (h : x + d * 2 ^ s < 4294967296) : bits .or .u32 (x : Int) ((d : Int) * 2 ^ s) = ((x + d * 2 ^ s : Nat) : Int) := by
  have e := bits_or32 hx h
  rwa [show IntKind.u32.wrap ((d : Int) * 2 ^ s) = (d : Int) * 2 ^ s by
    rw [show ((d : Int) * 2 ^ s) = ((d * 2 ^ s : Nat) : Int) by simp]
    exact IntWalk.u32_in _ (by omega)] at e
theorem or32_a {a b : Nat} (ha : a < 256) (hb : b < 256) : bits .or .u32 (a : Int) ((b : Int) * 256) = ((a + b * 256 : Nat) : Int) := bits_or32' (s := 8) ha (by omega)
theorem or32_b {a b : Nat} (ha : a < 65536) (hb : b < 256) : bits .or .u32 (a : Int) ((b : Int) * 65536) = ((a + b * 65536 : Nat) : Int) := bits_or32' (s := 16) ha (by omega)
theorem or32_c {a b : Nat} (ha : a < 16777216) (hb : b < 256) : bits .or .u32 (a : Int) ((b : Int) * 16777216) = ((a + b * 16777216 : Nat) : Int) := bits_or32' (s := 24) ha (by omega)

set_option maxRecDepth 100000 in
set_option maxHeartbeats 1000000 in
theorem beU32_any (b off n c : Nat) (f : Nat → Nat) (w : World) (hn : 4 ≤ n) (hf : ∀ i, i < n → f i < 256) (hr : Rd .u8 w (some ⟨b, off, none⟩) n f) :
    Calls Try.prog 171 #[.slice (some ⟨b, off, none⟩) n c] w fun e w' => e = .returned (.int .u32 (be f 4 : Nat)) ∧ ∃ k, w' = w.drewN k := by
  obtain ⟨b', off', e, hc⟩ := hr.open (by omega)
  cases e
  have h0 := hc 0 (by omega)
  have h1 := hc 1 (by omega)
  have h2 := hc 2 (by omega)
  have h3 := hc 3 (by omega)
  have l0 := hf 0 (by omega)
  have l1 := hf 1 (by omega)
  have l2 := hf 2 (by omega)
  have l3 := hf 3 (by omega)
  have HV : Hid (f 3 + f 2 * 256 + f 1 * 65536 + f 0 * 16777216 = be f 4) := by
    show _ = _
    simp only [be]; omega
  rw [Nat.add_zero] at h0
  clear hc hr hf
  generalize f 0 = d0 at *
  generalize f 1 = d1 at *
  generalize f 2 = d2 at *
  generalize f 3 = d3 at *
  have i1 : (3 : Int) < (n : Int) := by omega
  have i2 : (2 : Int) < (n : Int) := by omega
  have i3 : (1 : Int) < (n : Int) := by omega
  have i4 : (0 : Int) < (n : Int) := by omega
  go_enter Try.func171, Try.ntmps171
  go_wp2_with fail
  go_quiet (fail)
  go_wp2_with fail
  have e1 := or32_a l3 l2
  have e2 := or32_b (a := d3 + d2 * 256) (by omega) l1
  have e3 := or32_c (a := d3 + d2 * 256 + d1 * 65536) (by omega) l0
  go_ret
  exact ⟨ret_int (by rw [← HV.out, e1, e2, e3]), _, rfl⟩
theorem quiet_drew {P : Program} {f : FuncId} {args : Array Value} {w : World} {n : Nat} {v : Value}
    (h : Calls P f args (w.drewN n) fun e w' => e = .returned v ∧ ∃ k, w' = (w.drewN n).drewN k) : Calls P f args (w.drewN n) fun e w'' => e = .returned v ∧ ∃ m, w'' = w.drewN m :=
  h.mono fun _ _ ⟨he, k, hm⟩ => ⟨he, n + k, by rw [hm, World.drewN_drewN]⟩
theorem or64_hi {a b : Nat} (ha : a < 4294967296) (hb : b < 4294967296) : bits .or .u64 (IntKind.u64.wrap ((a : Int) * 4294967296)) (b : Int) = ((a * 4294967296 + b : Nat) : Int) := by
  rw [show IntKind.u64.wrap ((a : Int) * 4294967296) = ((a * 4294967296 : Nat) : Int) by
    rw [show ((a : Int) * 4294967296) = ((a * 4294967296 : Nat) : Int) by simp]
    exact IntWalk.u64_in _ (by omega), bits_or]
  congr 1
  unfold orW
  have h := or_shift (x := b) (d := a) (s := 32) hb
  rw [Nat.shiftLeft_eq, Nat.or_comm] at h
  rw [show (4294967296 : Nat) = 2 ^ 32 from rfl, h, Nat.add_comm]
  exact Nat.mod_eq_of_lt (by unfold W64; omega)
theorem or64_hi' {a b : Nat} (ha : a < 4294967296) (hb : b < 4294967296) : bits .or .u64 ((a : Int) * 4294967296) (b : Int) = ((a * 4294967296 + b : Nat) : Int) := by
  have e := or64_hi ha hb
  rwa [show IntKind.u64.wrap ((a : Int) * 4294967296) = (a : Int) * 4294967296 from IntWalk.u64_in _ (by omega)] at e
theorem be_eight (f : Nat → Nat) : be f 8 = be f 4 * 4294967296 + be (fun i => f (4 + i)) 4 := by
  simp only [be]
  generalize f 0 = d0
  show _ = _ + ((((0 * 256 + f (4 + 0)) * 256 + f (4 + 1)) * 256 + f (4 + 2)) * 256 + f (4 + 3))
  simp only [Nat.reduceAdd]
  omega
set_option maxRecDepth 100000 in
set_option maxHeartbeats 1000000 in
theorem beU64_any (b off c : Nat) (f : Nat → Nat) (w : World) (hc8 : 8 ≤ c) (hf : ∀ i, i < 8 → f i < 256) (hr : Rd .u8 w (some ⟨b, off, none⟩) 8 f) :
    Calls Try.prog 170 #[.slice (some ⟨b, off, none⟩) 8 c] w fun e w' => e = .returned (.int .u64 (be f 8 : Nat)) ∧ ∃ k, w' = w.drewN k := by
  obtain ⟨b', off', e, hc⟩ := hr.open (by omega)
  cases e
  have h7 := hc 7 (by omega)
  have l0 : be f 4 < 4294967296 := be_lt (n := 4) (fun i hi => hf i (by omega))
  have l1 : be (fun i => f (4 + i)) 4 < 4294967296 := be_lt (n := 4) (fun i hi => hf (4 + i) (by omega))
  have HV : Hid (be f 4 * 4294967296 + be (fun i => f (4 + i)) 4 = be f 8) := (be_eight f).symm
  have k1 := fun k => quiet_drew (beU32_any b off 8 c f (w.drewN k) (by omega) hf (hr.keep ((Upd.refl _ _).drewN k)))
  have k2 := fun k => quiet_drew (beU32_any b (off + 4) 4 (c - 4) (fun i => f (4 + i)) (w.drewN k) (by omega) (fun i hi => hf _ (by omega)) ((hr.keep ((Upd.refl _ _).drewN k)).drop (m := 4) (by omega)))
  generalize be f 4 = A at *
  generalize be (fun i => f (4 + i)) 4 = B at *
  clear hc hr hf
  have hc8' : (4 : Int) < (c : Int) := by omega
  replace k1 := Lib.hid k1
  replace k2 := Lib.hid k2
  go_enter Try.func170, Try.ntmps170
  go_wp2_with fail
  go_quiet (first | (go_at_call 171; with_reducible exact k1.out _) | (go_at_call 171; with_reducible exact k2.out _))
  go_wp2_with fail
  have e1 := or64_hi' l0 l1
  go_ret
  exact ⟨ret_int (by rw [← HV.out, e1]), _, rfl⟩
set_option maxHeartbeats 1000000 in
theorem beUint_any (b off c : Nat) (f : Nat → Nat) (w : World) (hc8 : 8 ≤ c) (hf : ∀ i, i < 8 → f i < 256) (hr : Rd .u8 w (some ⟨b, off, none⟩) 8 f) :
    Calls Try.prog 160 #[.slice (some ⟨b, off, none⟩) 8 c] w fun e w' => e = .returned (.int .u64 (be f 8 : Nat)) ∧ ∃ k, w' = w.drewN k := by
  have l : be f 8 < 18446744073709551616 := be_lt (n := 8) (fun i hi => hf i (by omega))
  have k1 := beU64_any b off c f w hc8 hf hr
  generalize be f 8 = A at *
  clear hr hf
  replace k1 := Lib.hid k1
  go_enter Try.func160, Try.ntmps160
  go_wp2_with fail
  with_reducible refine k1.out.mono ?_
  rintro e w' ⟨rfl, k, rfl⟩
  go_wp2_with fail
  go_ret
  exact ⟨rfl, k, rfl⟩
end Go.Proofs.Ytmbghmjllipbhaa
