/-
  Contracts: beUint32, beUint64, bigEndianUint, setBytes.
  Contracts: setBytes, resetToBytes.
-/
import Derived.Test.YtpojonfopoobpaaNatJ
import Derived.Deep.DeepCutAuto
import Derived.Deep.CutBlock
namespace Go.Proofs.Ytpojonfopoobpaa
open Go.RowKit

/-- 'or' on 32 bits, where the parts do not meet. -/
theorem bits_or32 {x d s : Nat} (hx : x < 2 ^ s) (h : x + d * 2 ^ s < 4294967296) : bits .or .u32 (x : Int) (IntKind.u32.wrap ((d : Int) * 2 ^ s)) = ((x + d * 2 ^ s : Nat) : Int) := by
  have e1 : IntKind.u32.wrap ((d : Int) * 2 ^ s) = ((d * 2 ^ s : Nat) : Int) := by
    rw [show ((d : Int) * 2 ^ s) = ((d * 2 ^ s : Nat) : Int) by simp]
    exact IntWalk.u32_in _ (by omega)
  rw [e1]
  have hb : ∀ z : Nat, z < 4294967296 → (BitVec.ofInt 32 (z : Int)).toNat = z := fun z hz => by
    rw [BitVec.ofInt_natCast, BitVec.toNat_ofNat]; exact Nat.mod_eq_of_lt hz
  have h2 : (BitVec.ofInt 32 (x : Int) ||| BitVec.ofInt 32 ((d * 2 ^ s : Nat) : Int)).toNat = x + d * 2 ^ s := by
    rw [BitVec.toNat_or, hb _ (by omega), hb _ (by omega)]
    have := or_shift (d := d) hx
    rwa [Nat.shiftLeft_eq] at this
  show IntKind.u32.wrap ((BitVec.ofInt 32 (x : Int) ||| BitVec.ofInt 32 ((d * 2 ^ s : Nat) : Int)).toNat : Int) = _
  rw [h2, IntWalk.u32_in _ (by omega)]
theorem bits_or32' {x d s : Nat} (hx : x < 2 ^ s) (h : x + d * 2 ^ s < 4294967296) : bits .or .u32 (x : Int) ((d : Int) * 2 ^ s) = ((x + d * 2 ^ s : Nat) : Int) := by
  have e := bits_or32 hx h
  rwa [show IntKind.u32.wrap ((d : Int) * 2 ^ s) = (d : Int) * 2 ^ s by
    rw [show ((d : Int) * 2 ^ s) = ((d * 2 ^ s : Nat) : Int) by simp]
    exact IntWalk.u32_in _ (by omega)] at e
theorem or32_a {a b : Nat} (ha : a < 256) (hb : b < 256) : bits .or .u32 (a : Int) ((b : Int) * 256) = ((a + b * 256 : Nat) : Int) := bits_or32' (s := 8) ha (by omega)
theorem or32_b {a b : Nat} (ha : a < 65536) (hb : b < 256) : bits .or .u32 (a : Int) ((b : Int) * 65536) = ((a + b * 65536 : Nat) : Int) := bits_or32' (s := 16) ha (by omega)
theorem or32_c {a b : Nat} (ha : a < 16777216) (hb : b < 256) : bits .or .u32 (a : Int) ((b : Int) * 16777216) = ((a + b * 16777216 : Nat) : Int) := bits_or32' (s := 24) ha (by omega)

set_option maxRecDepth 100000 in
set_option maxHeartbeats 1000000 in
theorem beU32_any (b off n c : Nat) (f : Nat → Nat) (w : World) (hn : 4 ≤ n) (hf : ∀ i, i < n → f i < 256) (hr : Rd .u8 w (some ⟨b, off, none⟩) n f) :
    Calls Try.prog 157 #[.slice (some ⟨b, off, none⟩) n c] w fun e w' => e = .returned (.int .u32 (be f 4 : Nat)) ∧ ∃ k, w' = w.drewN k := by
  obtain ⟨b', off', e, hc⟩ := hr.open (by omega)
  cases e
  have h0 := hc 0 (by omega)
  have h1 := hc 1 (by omega)
  have h2 := hc 2 (by omega)
  have h3 := hc 3 (by omega)
  have l0 := hf 0 (by omega)
  have l1 := hf 1 (by omega)
  have l2 := hf 2 (by omega)
  have l3 := hf 3 (by omega)
  have HV : Hid (f 3 + f 2 * 256 + f 1 * 65536 + f 0 * 16777216 = be f 4) := by
    show _ = _
    simp only [be]; omega
  rw [Nat.add_zero] at h0
  clear hc hr hf
  generalize f 0 = d0 at *
  generalize f 1 = d1 at *
  generalize f 2 = d2 at *
  generalize f 3 = d3 at *
  have i1 : (3 : Int) < (n : Int) := by omega
  have i2 : (2 : Int) < (n : Int) := by omega
  have i3 : (1 : Int) < (n : Int) := by omega
  have i4 : (0 : Int) < (n : Int) := by omega
  go_enter Try.func157, Try.ntmps157
  go_wp2_with fail
  go_quiet (fail)
  go_wp2_with fail
  have e1 := or32_a l3 l2
  have e2 := or32_b (a := d3 + d2 * 256) (by omega) l1
  have e3 := or32_c (a := d3 + d2 * 256 + d1 * 65536) (by omega) l0
  go_ret
  exact ⟨ret_int (by rw [← HV.out, e1, e2, e3]), _, rfl⟩
theorem quiet_drew {P : Program} {f : FuncId} {args : Array Value} {w : World} {n : Nat} {v : Value}
    (h : Calls P f args (w.drewN n) fun e w' => e = .returned v ∧ ∃ k, w' = (w.drewN n).drewN k) : Calls P f args (w.drewN n) fun e w'' => e = .returned v ∧ ∃ m, w'' = w.drewN m :=
  h.mono fun _ _ ⟨he, k, hm⟩ => ⟨he, n + k, by rw [hm, World.drewN_drewN]⟩
theorem or64_hi {a b : Nat} (ha : a < 4294967296) (hb : b < 4294967296) : bits .or .u64 (IntKind.u64.wrap ((a : Int) * 4294967296)) (b : Int) = ((a * 4294967296 + b : Nat) : Int) := by
  rw [show IntKind.u64.wrap ((a : Int) * 4294967296) = ((a * 4294967296 : Nat) : Int) by
    rw [show ((a : Int) * 4294967296) = ((a * 4294967296 : Nat) : Int) by simp]
    exact IntWalk.u64_in _ (by omega), bits_or]
  congr 1
  unfold orW
  have h := or_shift (x := b) (d := a) (s := 32) hb
  rw [Nat.shiftLeft_eq, Nat.or_comm] at h
  rw [show (4294967296 : Nat) = 2 ^ 32 from rfl, h, Nat.add_comm]
  exact Nat.mod_eq_of_lt (by unfold W64; omega)
theorem or64_hi' {a b : Nat} (ha : a < 4294967296) (hb : b < 4294967296) : bits .or .u64 ((a : Int) * 4294967296) (b : Int) = ((a * 4294967296 + b : Nat) : Int) := by
  have e := or64_hi ha hb
  rwa [show IntKind.u64.wrap ((a : Int) * 4294967296) = (a : Int) * 4294967296 from IntWalk.u64_in _ (by omega)] at e
theorem be_eight (f : Nat → Nat) : be f 8 = be f 4 * 4294967296 + be (fun i => f (4 + i)) 4 := by
  simp only [be]
  generalize f 0 = d0
  show _ = _ + ((((0 * 256 + f (4 + 0)) * 256 + f (4 + 1)) * 256 + f (4 + 2)) * 256 + f (4 + 3))
  simp only [Nat.reduceAdd]
  omega
set_option maxRecDepth 100000 in
set_option maxHeartbeats 1000000 in
theorem beU64_any (b off c : Nat) (f : Nat → Nat) (w : World) (hc8 : 8 ≤ c) (hf : ∀ i, i < 8 → f i < 256) (hr : Rd .u8 w (some ⟨b, off, none⟩) 8 f) :
    Calls Try.prog 156 #[.slice (some ⟨b, off, none⟩) 8 c] w fun e w' => e = .returned (.int .u64 (be f 8 : Nat)) ∧ ∃ k, w' = w.drewN k := by
  obtain ⟨b', off', e, hc⟩ := hr.open (by omega)
  cases e
  have h7 := hc 7 (by omega)
  have l0 : be f 4 < 4294967296 := be_lt (n := 4) (fun i hi => hf i (by omega))
  have l1 : be (fun i => f (4 + i)) 4 < 4294967296 := be_lt (n := 4) (fun i hi => hf (4 + i) (by omega))
  have HV : Hid (be f 4 * 4294967296 + be (fun i => f (4 + i)) 4 = be f 8) := (be_eight f).symm
  have k1 := fun k => quiet_drew (beU32_any b off 8 c f (w.drewN k) (by omega) hf (hr.keep ((Upd.refl _ _).drewN k)))
  have k2 := fun k => quiet_drew (beU32_any b (off + 4) 4 (c - 4) (fun i => f (4 + i)) (w.drewN k) (by omega) (fun i hi => hf _ (by omega)) ((hr.keep ((Upd.refl _ _).drewN k)).drop (m := 4) (by omega)))
  generalize be f 4 = A at *
  generalize be (fun i => f (4 + i)) 4 = B at *
  clear hc hr hf
  have hc8' : (4 : Int) < (c : Int) := by omega
  replace k1 := Lib.hid k1
  replace k2 := Lib.hid k2
  go_enter Try.func156, Try.ntmps156
  go_wp2_with fail
  go_quiet (first | (go_at_call 157; with_reducible exact k1.out _) | (go_at_call 157; with_reducible exact k2.out _))
  go_wp2_with fail
  have e1 := or64_hi' l0 l1
  go_ret
  exact ⟨ret_int (by rw [← HV.out, e1]), _, rfl⟩
set_option maxHeartbeats 1000000 in
theorem beUint_any (b off c : Nat) (f : Nat → Nat) (w : World) (hc8 : 8 ≤ c) (hf : ∀ i, i < 8 → f i < 256) (hr : Rd .u8 w (some ⟨b, off, none⟩) 8 f) :
    Calls Try.prog 143 #[.slice (some ⟨b, off, none⟩) 8 c] w fun e w' => e = .returned (.int .u64 (be f 8 : Nat)) ∧ ∃ k, w' = w.drewN k := by
  have l : be f 8 < 18446744073709551616 := be_lt (n := 8) (fun i hi => hf i (by omega))
  have k1 := beU64_any b off c f w hc8 hf hr
  generalize be f 8 = A at *
  clear hr hf
  replace k1 := Lib.hid k1
  go_enter Try.func143, Try.ntmps143
  go_wp2_with fail
  with_reducible refine k1.out.mono ?_
  rintro e w' ⟨rfl, k, rfl⟩
  go_wp2_with fail
  go_ret
  exact ⟨rfl, k, rfl⟩
end Go.Proofs.Ytpojonfopoobpaa

namespace Go.Proofs.Ytpojonfopoobpaa
open Go.RowKit

theorem be_append (f : Nat → Nat) (m : Nat) : ∀ k, be f (m + k) = be f m * 256 ^ k + be (fun i => f (m + i)) k
  | 0 => by simp [be]
  | k + 1 => by
    rw [← Nat.add_assoc]
    simp only [be]
    rw [be_append f m k, Nat.pow_succ, Nat.add_mul, Nat.mul_assoc]
    omega
theorem W64_256 : W64 = 256 ^ 8 := rfl
/-- Limb j out of the bytes. -/
theorem be_limb {f : Nat → Nat} {r j n : Nat} (hn : r + 8 * j = n) (hr : 8 ≤ r) (hf : ∀ i, i < n → f i < 256) : be (fun i => f (r - 8 + i)) 8 = dg W64 (be f n) j := by
  subst hn
  have h1 : be (fun i => f (r + i)) (8 * j) < 256 ^ (8 * j) := be_lt (fun i hi => hf _ (by omega))
  have h2 : be (fun i => f (r - 8 + i)) 8 < 256 ^ 8 := be_lt (fun i hi => hf _ (by omega))
  have h3 := be_append f (r - 8) 8
  rw [show r - 8 + 8 = r by omega] at h3
  unfold dg
  rw [W64_256, ← Nat.pow_mul, be_append f r (8 * j), Nat.mul_comm (be f r), Nat.mul_add_div (Nat.pow_pos (by omega)), Nat.div_eq_of_lt h1, Nat.add_zero, h3, Nat.mul_comm (be f (r - 8)), Nat.mul_add_mod, Nat.mod_eq_of_lt h2]
/-- One more limb. -/
theorem limb_more (N j t : Nat) : (if t = j then dg W64 N j else dg W64 (N % 256 ^ (8 * j)) t) = dg W64 (N % 256 ^ (8 * (j + 1))) t := by
  have e : ∀ i, (256 : Nat) ^ (8 * i) = W64 ^ i := fun i => by rw [Nat.pow_mul]; rfl
  rw [e, e]
  by_cases h : t = j
  · subst h
    rw [if_pos rfl, dg_mod_lt W64_pos (by omega)]
  · rw [if_neg h]
    by_cases h2 : t < j
    · rw [dg_mod_lt W64_pos h2, dg_mod_lt W64_pos (by omega)]
    · rw [dg_mod_ge W64_pos (by omega), dg_mod_ge W64_pos (by omega)]

set_option maxRecDepth 100000 in
set_option maxHeartbeats 4000000 in
theorem setBytes_any (p b c n : Nat) (a : Option Addr) (len cx : Nat) (f : Nat → Nat) (w : World) (hx : NatAt w p b c n 0) (hl : len ≤ 8 * n) (hf : ∀ i, i < len → f i < 256) (hs : Sl .u8 w a len cx f) (hne : 0 < len → ∀ x off, a = some ⟨x, off, none⟩ → x ≠ b) :
    Calls Try.prog 113 #[.pointer (some ⟨p, 0, none⟩), .slice a len cx] w fun e w' => e = .returned .nilIface ∧ NatAt w' p b c n (be f len) ∧ Upd (fun k => k = b) w w' := by
  have hle := hx.le
  have hsm := hx.sm
  have hlc := hs.le
  obtain ⟨N, HN⟩ : ∃ N, Hid (N = be f len) := ⟨_, rfl⟩
  have HNl : Hid (N < 256 ^ len) := by rw [HN.out]; exact be_lt hf
  have HF := Lib.hid hf
  rw [← HN.out]
  clear hf
  go_enter Try.func113, Try.ntmps113
  go_wp2_with fail
  go_loopw [5, 6] (fun i k wr => ∃ j r : Nat, j ≤ n ∧ r ≤ len ∧ i = .int .i64 r ∧ k = .int .i64 j ∧ Hid (r + 8 * j = len) ∧ Wrote w wr b n (fun t => dg W64 (N % 256 ^ (8 * j)) t)) (fun _ k _ => n - (intOf k).toNat)
  case atStart => exact ⟨0, len, by omega, Nat.le_refl _, rfl, rfl, rfl, .start (hx.own.congr fun t _ => by rw [Nat.mul_zero, Nat.pow_zero, Nat.mod_one])⟩
  case round =>
    obtain ⟨j, r, hj, hr, rfl, rfl, HR, hw⟩ := hrel
    have hcell := hx.wrote_hd hw
    by_cases hgo : j < n ∧ 8 ≤ r
    · obtain ⟨hjn, hr8⟩ := hgo
      obtain ⟨bx, off, rfl, hcx⟩ := hs.rd.open (by omega)
      have hneb := hne (by omega) bx off rfl
      have hrd : Rd .u8 wr (some ⟨bx, off + (r - 8), none⟩) 8 (fun i => f (r - 8 + i)) := ((hs.rd.keepS hw.upd hneb).drop (m := r - 8) (by omega)).le (by omega)
      obtain ⟨D, HD⟩ : ∃ D, Hid (D = dg W64 N j) := ⟨_, rfl⟩
      have hcall := beUint_any bx (off + (r - 8)) (cx - (r - 8)) (fun i => f (r - 8 + i)) wr.drew (by omega) (fun i hi => HF.out _ (by omega)) (hrd.keep ((Upd.refl _ _).drew))
      rw [be_limb HR.out hr8 HF.out, ← HN.out, ← HD.out] at hcall
      have hDl : D < 18446744073709551616 := by rw [HD.out]; exact limb_lt _ _
      replace hcall := Lib.hid hcall
      obtain ⟨d0, hc1, hf1, hd1, HD1⟩ := hw.limb hjn (limb_lt _ _)
      have i1 : (j : Int) < (n : Int) := by omega
      have i2 : (0 : Int) ≤ (j : Int) := by omega
      have i3 : ((j : Int)).toNat = j := by omega
      have i4 : (8 : Int) ≤ (r : Int) := by omega
      have i5 : (0 : Int) ≤ (r : Int) - 8 := by omega
      have i6 : (r : Int) - 8 ≤ (r : Int) := by omega
      have i7 : (r : Int) ≤ (cx : Int) := by omega
      have i8 : ((r : Int) - 8).toNat = r - 8 := by omega
      have i9 : ((r : Int)).toNat = r := by omega
      have i10 : r - (r - 8) = 8 := by omega
      have i11 : (r : Int) - 8 < (cx : Int) := by omega
      have e1 := w64 ((r : Int) - 8) (by omega) (by omega)
      go_upto_region 3 with fail
      go_cut [] (fun wx => ∃ m, wx = (wr.drewN m).setCell ⟨b, j, none⟩ (.int .u64 (D : Nat)))
      case first =>
        clear hw hrd hcx
        go_wp2_with fail
        go_region_with ((go_at_call 143; with_reducible refine hcall.out.mono ?_; rintro e w' ⟨rfl, kk, rfl⟩))
        all_goals (go_wp2_with fail; go_meet; exact ⟨_, rfl⟩)
      case rest =>
        obtain ⟨m, rfl⟩ := hcut
        have hw2 : Wrote w ((wr.drewN m).setCell ⟨b, j, none⟩ (.int .u64 (D : Nat))) b n (fun t => dg W64 (N % 256 ^ (8 * (j + 1))) t) := ((hw.drewN m).set hjn D rfl).congr (fun t _ => by rw [HD.out]; exact limb_more N j t)
        generalize (wr.drewN m).setCell ⟨b, j, none⟩ (.int .u64 (D : Nat)) = wq at *
        clear i10 i8 i9 i3 e1
        have HR2 : Hid (r - 8 + 8 * (j + 1) = len) := by have := HR.out; show _ = _; omega
        go_wp2_with fail
        go_roundw
        case rel => exact ⟨j + 1, r - 8, by omega, by omega, by go_num, by go_num, HR2, hw2⟩
        case measure => simp [intOf]; omega
    · have hr7 : r ≤ 7 := by have := HR.out; omega
      have hjr : 0 < r → j < n := by have := HR.out; omega
      have hjr := Lib.hid hjr
      have HB : Hid (∀ q, q < r → f (r - 1 - q) = dg 256 N (8 * j + q)) := fun q hq => by
        rw [HN.out, be_dg HF.out _ (by have := HR.out; omega)]
        congr 1
        have := HR.out; omega
      by_cases hjn : j < n
      · have hd : decide ((8 : Int) ≤ (r : Int)) = false := by simp; omega
        clear hgo
        go_wp2_with fail
        clear hd hcell
        go_loopw [5, 7] (fun i s wq => ∃ q S : Nat, q ≤ r ∧ S ≤ 56 ∧ i = .int .i64 ((r : Int) - (q : Int)) ∧ s = .int .i64 S ∧ Hid (S = 8 * q) ∧ Wrote w wq b n (fun t => dg W64 (N % 256 ^ (8 * j + q)) t)) (fun _ s _ => 64 - (intOf s).toNat)
        case atStart => exact ⟨0, 0, by omega, by omega, by go_num, rfl, rfl, hw⟩
        case round =>
          clear hw
          obtain ⟨q, S, hq, hS, rfl, rfl, HS, hw⟩ := hrel
          have hcell := hx.wrote_hd hw
          by_cases hqr : q < r
          · obtain ⟨bx, off, d, rfl, hcx, hd, HD⟩ := byte_cell hs.rd HF.out (show r - 1 - q < len by omega)
            have hneb := hne (by omega) bx off rfl
            have hcx := hw.upd.cell (p := ⟨bx, off + (r - 1 - q), none⟩) hneb hcx
            have HD : Hid (d = dg 256 N (8 * j + q)) := by show _ = _; rw [HD.out, HB.out q hqr]
            obtain ⟨o, hc1, hf1, ho, HO⟩ := hw.limb hjn (limb_lt _ _)
            have i1 : (j : Int) < (n : Int) := by omega
            have i2 : (0 : Int) ≤ (j : Int) := by omega
            have i3 : ((j : Int)).toNat = j := by omega
            have i4 : (0 : Int) < (r : Int) - (q : Int) := by omega
            have i4' : (q : Int) < (r : Int) := by omega
            have i5 : (0 : Int) ≤ (r : Int) - (q : Int) - 1 := by omega
            have i5' : (1 : Int) ≤ (r : Int) - (q : Int) := by omega
            have i6 : (r : Int) - (q : Int) - 1 < (len : Int) := by omega
            have i7 : ((r : Int) - (q : Int) - 1).toNat = r - 1 - q := by omega
            have i8 : (S : Int) < 64 := by omega
            have e1 := w64 ((r : Int) - (q : Int) - 1) (by omega) (by omega)
            have e5 := IntWalk.u64_in (d : Int) (by omega)
            have hS2 : q + 1 ≤ 7 := by omega
            go_wp2_with fail
            go_still_tail 17, (by kernel_rfl)
            change wpList _ _ _ _ _ wr.drew
            go_wp2_with fail
            go_roundw
            case rel => exact ⟨q + 1, S + 8, by omega, by have := HS.out; omega, by go_num, by go_num, by have := HS.out; show _ = _; omega, by
              have h := (hw.drew.set hjn (orW o (shlW d S)) (by rw [← bits_or, ← wrap_shl]))
              refine h.congr fun t _ => ?_
              have h2 := word_next N (8 * j + q) t
              rw [show (8 * j + q) / 8 = j by omega, show (8 * j + q) % 8 = q by omega] at h2
              rw [HO.out, HS.out, HD.out]
              exact h2⟩
            case measure => simp [intOf]; omega
          · obtain rfl : q = r := by omega
            have hX : NatAt wr p b c n N := hx.wrote (hw.congr fun t _ => by rw [show 8 * j + q = len by have := HR.out; omega, Nat.mod_eq_of_lt HNl.out]) (Nat.lt_of_lt_of_le HNl.out (by rw [W64_256, ← Nat.pow_mul]; exact Nat.pow_le_pow_right (by omega) hl))
            have hu := hw.upd
            clear hw
            have i8 : (S : Int) < 64 := by omega
            have i9 : decide ((0 : Int) < (q : Int) - (q : Int)) = false := by simp
            go_wp2_with fail
            go_ret
            exact ⟨rfl, hX, hu⟩
      · have hr0 : r = 0 := by
          rcases Nat.eq_zero_or_pos r with h | h
          · exact h
          · exact absurd (hjr.out h) hjn
        subst hr0
        have HE : Hid (8 * j = len) := by have := HR.out; show _ = _; omega
        have hX : NatAt wr p b c n N := hx.wrote (hw.congr fun t _ => by rw [HE.out, Nat.mod_eq_of_lt HNl.out]) (Nat.lt_of_lt_of_le HNl.out (by rw [W64_256, ← Nat.pow_mul]; exact Nat.pow_le_pow_right (by omega) hl))
        have hu := hw.upd
        clear hw
        go_wp2_with fail
        go_loopw [5, 7] (fun i s wq => i = .int .i64 0 ∧ s = .int .i64 0 ∧ wr = wq) (fun _ _ _ => 0)
        case atStart => exact ⟨rfl, rfl, rfl⟩
        case round =>
          obtain ⟨rfl, rfl, rfl⟩ := hrel
          go_wp2_with fail
          go_ret
          exact ⟨rfl, hX, hu⟩
end Go.Proofs.Ytpojonfopoobpaa
