/-
  Contracts: errors.New, newModulus, resetToBytes, NewModulus, impl.modulus.
-/
import Derived.Test.YtmbghmjllipbhaaRr
import Derived.Test.YtmbghmjllipbhaaMod
import Derived.Test.YtmbghmjllipbhaaBytesB
import Derived.Test.YtmbghmjllipbhaaGcdA
import Derived.Test.YtmbghmjllipbhaaBs
namespace Go.Proofs.Ytmbghmjllipbhaa
open Go.RowKit

/-- An error that is not nil. -/
def IsErr (v : Value) : Prop := ∃ t x, v = .iface t x
set_option maxHeartbeats 400000 in
theorem errNew_any (s : ByteArray) (w : World) :
    Calls Try.prog 136 #[.string s] w fun e w' => (∃ t x, e = .returned (.iface t x)) ∧ Upd0 w w' := by
  go_enter Try.func136, Try.ntmps136
  go_wp2
  go_ret
  exact ⟨⟨_, _, rfl⟩, (Upd.refl _ _).alloc _⟩
theorem isOne_yes {p b c n : Nat} {w : World} (hx : NatAt w p b c n 1) : Calls Try.prog 76 #[.pointer (some ⟨p, 0, none⟩)] w fun e w' => e = .returned (.int .u64 1) ∧ w = w' := isOne_any p b c n 1 w hx
theorem isOne_no {p b c n X : Nat} {w : World} (hx : NatAt w p b c n X) (h : X ≠ 1) : Calls Try.prog 76 #[.pointer (some ⟨p, 0, none⟩)] w fun e w' => e = .returned (.int .u64 0) ∧ w = w' := by
  have := isOne_any p b c n X w hx
  rw [show eqN X 1 = 0 from if_neg h] at this
  exact this
/-- No modulus is returned. -/
def RetNoMod (w : World) (e : Ending) (w' : World) : Prop := ∃ t x, e = .returned (.tuple #[.pointer none, .iface t x]) ∧ Upd0 w w'
/-- A modulus is returned. -/
def RetMod (w : World) (M : Nat) (e : Ending) (w' : World) : Prop := ∃ mp, e = .returned (.tuple #[.pointer (some ⟨mp, 0, none⟩), .nilIface]) ∧ ModAt w' w'.heap.size mp (nl M) M ∧ Upd0 w w'

theorem MNat.cells4 {w : World} {q b c n M : Nat} (h : NatAt w q b c n M) (x y z : Value) (t : Nat) : MNat (w.alloc (.cells #[.pointer (some ⟨q, 0, none⟩), x, y, z] t)) w.heap.size q b c n M :=
  ⟨World.cell?_alloc_new _ _ _ _, h.keep0 ((Upd.refl _ _).alloc _)⟩
set_option maxRecDepth 100000 in
set_option maxHeartbeats 1000000 in
theorem newModulus_no (q b c n M : Nat) (w : World) (hx : NatAt w q b c n M) (h1 : ¬ 1 < M) :
    Calls Try.prog 131 #[.pointer (some ⟨q, 0, none⟩)] w (RetNoMod w) := by
  have ua : Upd0 w (w.alloc (.cells #[.pointer (some ⟨q, 0, none⟩), .bool false, .int .u64 0, .pointer none] 94)) := (Upd.refl _ _).alloc _
  have hm := MNat.boxed hx 94
  have hc := hm.hm
  rcases (show M = 0 ∨ M = 1 by omega) with h | h
  · subst h
    have k1 := Lib.hid (isZero_yes hm.nat)
    go_enter Try.func131, Try.ntmps131
    go_wp2_with fail
    with_reducible refine k1.out.mono ?_
    rintro e w' ⟨rfl, rfl⟩
    go_wp2_with fail
    with_reducible refine (errNew_any _ _).mono ?_
    rintro e w2 ⟨⟨t, x, rfl⟩, hu2⟩
    go_wp2_with fail
    go_ret2
    exact ⟨t, x, rfl, ua.trans hu2⟩
  · subst h
    have k1 := Lib.hid (isZero_no hm.nat (by omega))
    have k2 := Lib.hid (isOne_yes hm.nat)
    go_enter Try.func131, Try.ntmps131
    go_wp2_with fail
    with_reducible refine k1.out.mono ?_
    rintro e w' ⟨rfl, rfl⟩
    go_wp2_with fail
    with_reducible refine k2.out.mono ?_
    rintro e w' ⟨rfl, rfl⟩
    go_wp2_with fail
    with_reducible refine (errNew_any _ _).mono ?_
    rintro e w2 ⟨⟨t, x, rfl⟩, hu2⟩
    go_wp2_with fail
    go_ret2
    exact ⟨t, x, rfl, ua.trans hu2⟩
theorem minv_mod {M : Nat} (ho : M % 2 = 1) : (minvN (dg W64 M 0) * M + 1) % W64 = 0 := by
  have h1 : dg W64 M 0 % 2 = 1 := by rw [dg_zero]; unfold W64; omega
  have h2 := minvN_spec h1
  revert h2
  generalize minvN (dg W64 M 0) = k
  intro h2
  rw [dg_zero] at h2
  rw [← h2]
  generalize W64 = W
  rw [Nat.add_mod, Nat.mul_mod, Nat.add_mod (k * (M % W)), Nat.mul_mod k (M % W), Nat.mod_mod]
set_option maxRecDepth 100000 in
set_option maxHeartbeats 2000000 in
theorem newModulus_yes (q b c M : Nat) (w : World) (hx : NatAt w q b c (nl M) M) (h1 : 1 < M) (hn2 : nl M ≤ 16384) :
    Calls Try.prog 131 #[.pointer (some ⟨q, 0, none⟩)] w (RetMod w M) := by
  have hql := hx.hp
  have hbl := hx.hb
  have hn0 : 0 < nl M := nl_pos (by omega)
  have HM := Lib.hid hx.lt
  obtain ⟨n, Hn⟩ : ∃ n, Hid (n = nl M) := ⟨_, rfl⟩
  rw [← Hn.out] at hx hn2 hn0 HM
  have hm := MNat.cells4 hx (.bool false) (.int .u64 0) (.pointer none) 94
  have hc := hm.hm
  have k1 := Lib.hid (isZero_no hm.nat (by omega))
  have k2 := Lib.hid (isOne_no hm.nat (by omega))
  rcases Nat.mod_two_eq_zero_or_one M with ho | ho
  · have k3 := Lib.hid (isOdd_no hm.nat ho)
    have HO := Lib.hid ho
    have h1' := h1
    clear ho
    go_enter Try.func131, Try.ntmps131
    go_wp2_with fail
    with_reducible refine k1.out.mono ?_
    rintro e w' ⟨rfl, rfl⟩
    go_wp2_with fail
    with_reducible refine k2.out.mono ?_
    rintro e w' ⟨rfl, rfl⟩
    go_wp2_with fail
    with_reducible refine k3.out.mono ?_
    rintro e w' ⟨rfl, rfl⟩
    go_wp2_with fail
    go_ret2
    refine ⟨w.heap.size, rfl, ?_, (Upd.refl _ _).alloc _⟩
    rw [← Hn.out]
    exact ⟨⟨q, b, c, hm, by simp; omega, by simp; omega⟩, by simp, Nat.le_refl _, Hn.out, h1, hn2, by rw [show decide (M % 2 = 1) = false by rw [HO.out]; rfl]; exact World.cell?_alloc_new _ _ _ _, fun h => by have := HO.out; omega⟩
  · have k3 := Lib.hid (isOdd_yes hm.nat ho)
    have HO := Lib.hid ho
    have HK := Lib.hid (minv_mod ho)
    obtain ⟨k, Hk⟩ : ∃ k, Hid (k = minvN (dg W64 M 0)) := ⟨_, rfl⟩
    have hm2 := MNat.cells4 hx (.bool true) (.int .u64 0) (.pointer none) 94
    have hm3 := MNat.cells4 hx (.bool true) (.int .u64 k) (.pointer none) 94
    have hck : (w.alloc (.cells #[.pointer (some ⟨q, 0, none⟩), .bool true, .int .u64 k, .pointer none] 94)).cell? ⟨w.heap.size, 2, none⟩ = some (.int .u64 k) := World.cell?_alloc_new _ _ _ _
    have kr := rr_any w.heap.size q b c n M k _ hm3 hck (by rw [Hk.out]; exact HK.out) ho h1 Hn.out hn2
    have kv := minv_any (dg W64 M 0) (w.alloc (.cells #[.pointer (some ⟨q, 0, none⟩), .bool true, .int .u64 0, .pointer none] 94)) (limb_lt _ _)
    obtain ⟨d, hd, hdl, HD⟩ := hm2.nat.limb hn0
    have hhd := hm2.nat.hd
    have hmm2 := hm2.hm
    rw [← HD.out] at kv
    rw [HD.out, ← Hk.out, ← HD.out] at kv
    replace kr := Lib.hid kr
    replace kv := Lib.hid kv
    have hn0' : (0 : Int) < (n : Int) := by omega
    clear ho
    go_enter Try.func131, Try.ntmps131
    go_wp2_with fail
    with_reducible refine k1.out.mono ?_
    rintro e w' ⟨rfl, rfl⟩
    go_wp2_with fail
    with_reducible refine k2.out.mono ?_
    rintro e w' ⟨rfl, rfl⟩
    go_wp2_with fail
    with_reducible refine k3.out.mono ?_
    rintro e w' ⟨rfl, rfl⟩
    go_wp2_with fail
    with_reducible refine kv.out.mono ?_
    rintro e w' ⟨rfl, rfl⟩
    go_wp2_with fail
    with_reducible refine kr.out.mono ?_
    rintro e w3 ⟨pr, br, cr, rfl, hr, hpr, hbr, hu3⟩
    have hz3 := hu3.size
    have hb0 : w.heap.size < w3.heap.size := by simp at hz3; omega
    have hpr' : w.heap.size < pr := by simp at hpr; omega
    have hbr' : w.heap.size < br := by simp at hbr; omega
    have c3 := hu3.cell (p := ⟨w.heap.size, 3, none⟩) id (World.cell?_alloc_new _ _ _ _)
    have f3 := hu3.frozen (p := ⟨w.heap.size, 3, none⟩) id (by simp)
    rw [World.frozen?_alloc_at _ _ _ _ rfl] at f3
    have hm4 := hm3.keep0 hu3
    have hc1 := hu3.cell (p := ⟨w.heap.size, 1, none⟩) id (World.cell?_alloc_new _ _ _ _)
    have hc2 := hu3.cell (p := ⟨w.heap.size, 2, none⟩) id hck
    have hu30 : Upd0 w w3 := ((Upd.refl _ _).alloc _).trans hu3
    go_wp2_with fail
    go_ret2
    have hs1 : Upd (fun x => x = w.heap.size) w3 (w3.setCell ⟨w.heap.size, 3, none⟩ (.pointer (some ⟨pr, 0, none⟩))) := (Upd.refl _ _).setCell _ _ (fun _ => rfl)
    refine ⟨w.heap.size, rfl, ?_, hu30.setCell _ _ (fun h => by exact absurd h (Nat.lt_irrefl _))⟩
    rw [← Hn.out]
    have ne : ∀ i, i ≠ 3 → (⟨w.heap.size, 3, none⟩ : Addr) ≠ ⟨w.heap.size, i, none⟩ := fun i hi e => by cases e; exact hi rfl
    refine ⟨⟨q, b, c, ⟨?_, hm4.nat.keep hs1 (by omega) (by omega)⟩, by rw [World.size_setCell]; omega, by rw [World.size_setCell]; omega⟩, by rw [World.size_setCell]; omega, Nat.le_refl _, Hn.out, h1, hn2, ?_, fun _ => ⟨k, pr, br, cr, ?_, by rw [Hk.out]; exact HK.out, World.cell?_setCell_same _ _ _ c3, hr.keep hs1 (by omega) (by omega), by rw [World.size_setCell]; exact hr.hp, by rw [World.size_setCell]; exact hr.hb⟩⟩
    · rw [World.cell?_setCell_other _ _ _ _ (ne 0 (by omega))]; exact hm4.hm
    · rw [World.cell?_setCell_other _ _ _ _ (ne 1 (by omega)), show decide (M % 2 = 1) = true by rw [HO.out]; rfl]; exact hc1
    · rw [World.cell?_setCell_other _ _ _ _ (ne 2 (by omega))]; exact hc2

set_option maxRecDepth 100000 in
set_option maxHeartbeats 1000000 in
theorem resetToBytes_any (p b c m X : Nat) (a : Option Addr) (len cx : Nat) (f : Nat → Nat) (w : World) (hx : NatAt w p b c m X) (hl : len ≤ 100000) (hf : ∀ i, i < len → f i < 256) (hs : Sl .u8 w a len cx f) (hne : 0 < len → ∀ x off, a = some ⟨x, off, none⟩ → x ≠ b ∧ x ≠ p) :
    Calls Try.prog 129 #[.pointer (some ⟨p, 0, none⟩), .slice a len cx] w fun e w' => e = .returned (.pointer (some ⟨p, 0, none⟩)) ∧ Grown w p b (nl (be f len)) (be f len) w' := by
  have e8 : (((len : Int) + 8 - 1) / 8) = (((len + 7) / 8 : Nat) : Int) := by omega
  have k1 := reset_any p b c m X ((len + 7) / 8) w hx (by omega)
  rw [← e8] at k1
  replace k1 := Lib.hid k1
  clear e8
  go_enter Try.func129, Try.ntmps129
  go_wp2_with fail
  with_reducible refine k1.out.mono ?_
  rintro e w1 ⟨rfl, b1, c1, hx1, hb1, hu1⟩
  have hs1 : Sl .u8 w1 a len cx f := ⟨hs.le, by
    rcases Nat.eq_zero_or_pos len with h0 | h0
    · subst h0; exact .nil _ _ _
    · obtain ⟨x, off, rfl, _⟩ := hs.rd.open h0
      exact hs.rd.keepS hu1 (by have := hne h0 x off rfl; omega), hs.nil⟩
  have hne1 : 0 < len → ∀ x off, a = some ⟨x, off, none⟩ → x ≠ b1 := fun h0 x off h => by
    obtain ⟨x', off', h', hc⟩ := hs.rd.open h0
    rw [h] at h'
    cases h'
    have hlt : x < w.heap.size := World.block_lt_of_cell? _ _ (hc 0 h0)
    have := hne h0 x off h
    rcases hb1 with h2 | h2 <;> omega
  have k2 := Lib.hid (setBytes_any p b1 c1 ((len + 7) / 8) a len cx f w1 hx1 (by omega) hf hs1 hne1)
  go_wp2_with fail
  with_reducible refine k2.out.mono ?_
  rintro e w2 ⟨rfl, hx2, hu2⟩
  go_wp2_with fail
  with_reducible refine (trim_any p b1 c1 ((len + 7) / 8) (be f len) w2 hx2).mono ?_
  rintro e w3 ⟨rfl, hx3, hu3⟩
  go_wp2_with fail
  go_ret
  exact ⟨rfl, b1, c1, hx3, hb1, (hu1.then hu2 (fun i hi h => by rcases hb1 with h' | h' <;> omega)).then hu3 (fun i hi h => .inl h)⟩
theorem Sl.blk {w : World} {a : Option Addr} {n c : Nat} {f : Nat → Nat} (hs : Sl .u8 w a n c f) (h0 : 0 < n) {x off : Nat} (h : a = some ⟨x, off, none⟩) : x < w.heap.size := by
  obtain ⟨x', off', h', hc⟩ := hs.rd.open h0
  rw [h] at h'
  cases h'
  exact World.block_lt_of_cell? _ _ (hc 0 h0)
set_option maxRecDepth 100000 in
set_option maxHeartbeats 1000000 in
theorem NewModulus_yes {a : Option Addr} {n c M : Nat} {w : World} (hn : n ≤ 100000) (h : Bs w a n c M) (hM : 1 < M) :
    Calls Try.prog 127 #[.slice a n c] w (RetMod w M) := by
  have hnl : nl M ≤ 16384 := by have := h.blen; unfold nl; omega
  obtain ⟨f, hf, hs, HB⟩ := h
  replace HB := Lib.hid HB
  go_enter Try.func127, Try.ntmps127
  go_wp2_with fail
  with_reducible refine (newNat_any w).mono ?_
  rintro e w1 ⟨rfl, hx1, hu1, hz1⟩
  replace hz1 : w.heap.size + 2 ≤ w1.heap.size := by omega
  have k1 := resetToBytes_any (w.heap.size + 1) w.heap.size 32 0 0 a n c f w1 hx1 hn hf (hs.keep hu1) (fun h0 x off h => by have := hs.blk h0 h; omega)
  rw [HB.out] at k1
  replace k1 := Lib.hid k1
  go_wp2_with fail
  with_reducible refine k1.out.mono ?_
  rintro e w2 ⟨rfl, b2, c2, hx2, hb2, hu2⟩
  have hu12 : Upd0 w w2 := hu1.then hu2 (fun i hi h => by omega)
  go_wp2_with fail
  with_reducible refine (newModulus_yes _ b2 c2 M w2 hx2 hM hnl).mono ?_
  rintro e w3 ⟨mp, rfl, hmod, hu3⟩
  go_wp2_with fail
  go_ret2
  exact ⟨mp, rfl, hmod, hu12.trans hu3⟩
set_option maxRecDepth 100000 in
set_option maxHeartbeats 1000000 in
theorem NewModulus_no {a : Option Addr} {n c M : Nat} {w : World} (hn : n ≤ 100000) (h : Bs w a n c M) (hM : ¬ 1 < M) :
    Calls Try.prog 127 #[.slice a n c] w (RetNoMod w) := by
  have hnl : nl M ≤ 16384 := by have := h.blen; unfold nl; omega
  obtain ⟨f, hf, hs, HB⟩ := h
  replace HB := Lib.hid HB
  go_enter Try.func127, Try.ntmps127
  go_wp2_with fail
  with_reducible refine (newNat_any w).mono ?_
  rintro e w1 ⟨rfl, hx1, hu1, hz1⟩
  replace hz1 : w.heap.size + 2 ≤ w1.heap.size := by omega
  have k1 := resetToBytes_any (w.heap.size + 1) w.heap.size 32 0 0 a n c f w1 hx1 hn hf (hs.keep hu1) (fun h0 x off h => by have := hs.blk h0 h; omega)
  rw [HB.out] at k1
  replace k1 := Lib.hid k1
  go_wp2_with fail
  with_reducible refine k1.out.mono ?_
  rintro e w2 ⟨rfl, b2, c2, hx2, hb2, hu2⟩
  have hu12 : Upd0 w w2 := hu1.then hu2 (fun i hi h => by omega)
  go_wp2_with fail
  with_reducible refine (newModulus_no _ b2 c2 _ M w2 hx2 hM).mono ?_
  rintro e w3 ⟨t, x, rfl, hu3⟩
  go_wp2_with fail
  go_ret2
  exact ⟨t, x, rfl, hu12.trans hu3⟩
end Go.Proofs.Ytmbghmjllipbhaa
