/-
  Contracts: trim, set, expand.
  Contracts: expand, resetFor, ExpandFor, maybeSubtractModulus, Add, Sub.
  Contracts: Add, Sub, SubOne modulo m.
-/
import Derived.Test.YtpojonfopoobpaaNatG
namespace Go.Proofs.Ytpojonfopoobpaa
open Go.RowKit

/-- How many limbs a number has. -/
def nl (X : Nat) : Nat := (blen X + 63) / 64
theorem nl_le_iff (n X : Nat) : nl X ≤ n ↔ X < W64 ^ n := by
  rw [powW, ← blen_le_iff]; unfold nl; omega
theorem lt_pow_nl (X : Nat) : X < W64 ^ nl X := (nl_le_iff _ X).1 (Nat.le_refl _)
theorem nl_pos {X : Nat} (h : X ≠ 0) : 0 < nl X := by have := blen_pos h; unfold nl; omega
theorem nl_mono {a b : Nat} (h : a ≤ b) : nl a ≤ nl b := by have := blen_mono h; unfold nl; omega
theorem nl_of_top {X n : Nat} (h : X < W64 ^ (n + 1)) (ht : dg W64 X n ≠ 0) : nl X = n + 1 := by
  have h1 := (nl_le_iff (n + 1) X).2 h
  have h2 : ¬ nl X ≤ n := fun h3 => ht (dg_of_lt ((nl_le_iff n X).1 h3))
  omega
theorem lt_of_no_top {X n : Nat} (h : X < W64 ^ (n + 1)) (ht : dg W64 X n = 0) : X < W64 ^ n := by
  have h1 := mod_succ W64 X n
  rw [Nat.mod_eq_of_lt h, ht, Nat.mul_zero, Nat.add_zero] at h1
  rw [h1]
  exact Nat.mod_lt _ (Nat.pow_pos W64_pos)
theorem nl_zero : nl 0 = 0 := rfl

/-- A number is cut to its first limbs. -/
theorem NatAt.cut {w : World} {p b c m X n : Nat} (hx : NatAt w p b c m X) (hn : n ≤ m) (hX : X < W64 ^ n) : NatAt (w.setCell ⟨p, 0, none⟩ (.slice (some ⟨b, 0, none⟩) n c)) p b c n X := by
  have hne : ∀ i, (⟨p, 0, none⟩ : Addr) ≠ ⟨b, i, none⟩ := fun i e => by cases e; exact hx.ne rfl
  exact ⟨World.cell?_setCell_same _ _ _ hx.hd, by rw [World.frozen?_setCell]; exact hx.hf, Nat.le_trans hn hx.le, hx.sm, hX,
    ⟨fun i hi => by rw [World.cell?_setCell_other _ _ _ _ (hne i)]; exact hx.own.cell i (by omega), fun i hi => by rw [World.frozen?_setCell]; exact hx.own.free i (by omega)⟩,
    fun i hi => by rw [World.cell?_setCell_other _ _ _ _ (hne i)]; exact hx.room i hi, fun i hi => by rw [World.frozen?_setCell]; exact hx.free i hi, hx.ne, by rw [World.size_setCell]; exact hx.hb⟩

set_option maxRecDepth 100000 in
set_option maxHeartbeats 1000000 in
theorem trim_any (p b c m X : Nat) (w : World) (hx : NatAt w p b c m X) :
    Calls Try.prog 108 #[.pointer (some ⟨p, 0, none⟩)] w fun e w' => e = .returned (.pointer (some ⟨p, 0, none⟩)) ∧ NatAt w' p b c (nl X) X ∧ Upd (fun k => k = p) w w' := by
  have hcell := hx.hd
  have hle := hx.le
  have hsm := hx.sm
  go_enter Try.func108, Try.ntmps108
  go_wp2
  go_loopw [3] (fun i wr => ∃ k : Nat, k ≤ c ∧ i = .int .i64 ((k : Int) - 1) ∧ NatAt wr p b c k X ∧ Upd (fun k => k = p) w wr) (fun i _ => (intOf i + 1).toNat)
  case atStart => exact ⟨m, hle, rfl, hx, .refl _ _⟩
  case round =>
    obtain ⟨k, hk, hi, hx1, hu⟩ := hrel
    clear hx hcell
    have hcell1 := hx1.hd
    have hfree1 := hx1.hf
    by_cases h0 : k = 0
    · subst h0
      subst hi
      have HX : NatAt wr p b c (nl X) X := by
        have h1 := hx1.lt
        obtain rfl : X = 0 := by simpa using h1
        exact hx1
      clear hx1
      go_wp2
      go_ret
      exact ⟨rfl, HX, hu⟩
    · obtain ⟨j, rfl⟩ : ∃ j, k = j + 1 := ⟨k - 1, by omega⟩
      replace hi := hi.trans (show Value.int .i64 (((j + 1 : Nat) : Int) - 1) = .int .i64 (j : Int) by congr 1; omega)
      subst hi
      obtain ⟨d, hc1, hd, HD⟩ := hx1.limb (show j < j + 1 by omega)
      by_cases hd0 : d = 0
      · subst hd0
        have HX := hx1.cut (n := j) (by omega) (lt_of_no_top hx1.lt HD.out.symm)
        have hu1 := hu.setCell ⟨p, 0, none⟩ (.slice (some ⟨b, 0, none⟩) j c) (fun _ => rfl)
        clear hx1 hu
        go_wp2
        go_roundw
        case rel => exact ⟨j, by omega, rfl, HX, hu1⟩
        case measure => simp [intOf]
      · have hd0' : ((d : Int) == 0) = false := by rw [beq_eq_false_iff_ne]; omega
        have HX : NatAt wr p b c (nl X) X := by
          rw [nl_of_top hx1.lt (by rw [← HD.out]; exact hd0)]; exact hx1
        clear hx1
        go_wp2
        go_ret
        exact ⟨rfl, HX, hu⟩

set_option maxRecDepth 100000 in
set_option maxHeartbeats 1000000 in
theorem set_any (p b c m X q b' c' n Y : Nat) (w : World) (hx : NatAt w p b c m X) (hy : NatAt w q b' c' n Y) (h1 : q ≠ p) (h2 : q ≠ b) (h3 : b' ≠ p) (h4 : b' ≠ b) :
    Calls Try.prog 89 #[.pointer (some ⟨p, 0, none⟩), .pointer (some ⟨q, 0, none⟩)] w fun e w' => e = .returned (.pointer (some ⟨p, 0, none⟩)) ∧ ∃ b1 c1, NatAt w' p b1 c1 n Y ∧ NewB w b b1 ∧ Upd (fun k => k = p ∨ k = b) w w' := by
  have hcell := hy.hd
  have hle := hy.le
  have hsm := hy.sm
  go_enter Try.func89, Try.ntmps89
  go_wp2_with fail
  with_reducible refine (reset_any p b c m X n w hx (by omega)).mono ?_
  rintro e w1 ⟨rfl, b1, c1, hx1, hb1, hu1⟩
  have hy1 := hy.keep hu1 (by omega) (by omega)
  have hcell1 := hx1.hd
  have hcell2 := hy1.hd
  clear hcell
  go_wp2_with fail
  go_still_tail 8, (by kernel_rfl)
  change wpList _ _ _ _ _ w1.drew
  go_wp2_with (refine wpList_copy_ints rfl (.tmp 15) (.tmp 19) 99 99 rfl 63 Try.underlying99 (by kernel_rfl) .u64 b1 n c1 _ rfl hx1.drew.own (some ⟨b', 0, none⟩) n c' _ rfl hy1.drew.own.rd ?_; intro w2 h1 h2 h3 hu2)
  go_ret
  have hX : NatAt w2 p b1 c1 n Y := hx1.drew.written hy.lt (h1.congr (fun i hi => by rw [if_pos hi])) h2 h3 hu2
  exact ⟨rfl, b1, c1, hX, hb1, hu1.then hu2.of_drew (fun i hi h => by
    subst h
    rcases hb1 with h | h
    · exact .inr h
    · omega)⟩
end Go.Proofs.Ytpojonfopoobpaa

namespace Go.Proofs.Ytpojonfopoobpaa
open Go.RowKit

/-- At p lies a number, whose limbs may have got new memory. -/
def Grown (w : World) (p b n X : Nat) (w' : World) : Prop := ∃ b' c', NatAt w' p b' c' n X ∧ NewB w b b' ∧ Upd (fun k => k = p ∨ k = b) w w'

theorem NatAt.regrown {w w2 : World} {p b c m X n s : Nat} (hx : NatAt w p b c m X) (hmn : m ≤ n) (hn : n ≤ 65536) (hs : s = w.heap.size) (ho : Own .u64 w2 s n (fun i => if i < m then dg W64 X i else 0)) (hf : w2.frozen? ⟨p, 0, none⟩ = false) (hu : Upd0 w w2) (hs2 : s < w2.heap.size) :
    NatAt (w2.setCell ⟨p, 0, none⟩ (.slice (some ⟨s, 0, none⟩) n n)) p s n n X := by
  have hp := hx.hp
  have hne : ∀ i, (⟨p, 0, none⟩ : Addr) ≠ ⟨s, i, none⟩ := fun i e => by cases e; omega
  have hX : X < W64 ^ n := Nat.lt_of_lt_of_le hx.lt (Nat.pow_le_pow_right W64_pos hmn)
  have ho' : Own .u64 (w2.setCell ⟨p, 0, none⟩ (.slice (some ⟨s, 0, none⟩) n n)) s n (dg W64 X) :=
    ⟨fun i hi => by
      rw [World.cell?_setCell_other _ _ _ _ (hne i), ho.cell i hi]
      by_cases h : i < m
      · rw [if_pos h]
      · rw [if_neg h, dg_of_lt' W64_pos hx.lt (by omega)], fun i hi => by rw [World.frozen?_setCell]; exact ho.free i hi⟩
  exact ⟨World.cell?_setCell_same _ _ _ (hu.cell (p := ⟨p, 0, none⟩) id hx.hd), by rw [World.frozen?_setCell]; exact hf, Nat.le_refl _, hn, hX, ho',
    fun i hi => by rw [ho'.cell i hi]; rfl, ho'.free, by omega, by rw [World.size_setCell]; exact hs2⟩

theorem NatAt.stretched {w w' : World} {p b c m X n : Nat} (hx : NatAt w p b c m X) (hmn : m ≤ n) (hn : n ≤ c)
    (h1 : ∀ i, i < n - m → w'.cell? ⟨b, m + i, none⟩ = some (.int .u64 0)) (h2 : ∀ i, (i < m ∨ m + (n - m) ≤ i) → w'.cell? ⟨b, i, none⟩ = w.cell? ⟨b, i, none⟩) (h3 : ∀ x, w'.frozen? x = w.frozen? x) (hu : Upd (fun x => x = b) w w') :
    NatAt (w'.setCell ⟨p, 0, none⟩ (.slice (some ⟨b, 0, none⟩) n c)) p b c n X := by
  have hne : ∀ i, (⟨p, 0, none⟩ : Addr) ≠ ⟨b, i, none⟩ := fun i e => by cases e; exact hx.ne rfl
  have hX : X < W64 ^ n := Nat.lt_of_lt_of_le hx.lt (Nat.pow_le_pow_right W64_pos hmn)
  refine ⟨World.cell?_setCell_same _ _ _ (hu.cell (p := ⟨p, 0, none⟩) hx.ne hx.hd), by rw [World.frozen?_setCell, h3]; exact hx.hf, hn, hx.sm, hX, ⟨fun i hi => ?_, fun i hi => ?_⟩, fun i hi => ?_, fun i hi => ?_, hx.ne, ?_⟩
  · rw [World.cell?_setCell_other _ _ _ _ (hne i)]
    by_cases h : i < m
    · rw [h2 i (.inl h)]; exact hx.own.cell i h
    · have := h1 (i - m) (by omega)
      rw [show m + (i - m) = i by omega] at this
      rw [this, dg_of_lt' W64_pos hx.lt (by omega)]; rfl
  · rw [World.frozen?_setCell, h3]; exact hx.free i (by omega)
  · rw [World.cell?_setCell_other _ _ _ _ (hne i)]
    by_cases h : i < m ∨ m + (n - m) ≤ i
    · rw [h2 i h]; exact hx.room i hi
    · have := h1 (i - m) (by omega)
      rw [show m + (i - m) = i by omega] at this
      rw [this]; rfl
  · rw [World.frozen?_setCell, h3]; exact hx.free i hi
  · rw [World.size_setCell]; exact Nat.lt_of_lt_of_le hx.hb hu.size

set_option maxRecDepth 100000 in
set_option maxHeartbeats 1000000 in
theorem expand_any (p b c m X n : Nat) (w : World) (hx : NatAt w p b c m X) (hmn : m ≤ n) (hn : n ≤ 65536) :
    Calls Try.prog 131 #[.pointer (some ⟨p, 0, none⟩), .int .i64 n] w fun e w' => e = .returned (.pointer (some ⟨p, 0, none⟩)) ∧ Grown w p b n X w' := by
  have hcell := hx.hd
  have hfree := hx.hf
  have hlt := hx.hp
  have hle := hx.le
  have hsm := hx.sm
  have hmn' : ¬ (n : Int) < (m : Int) := by omega
  by_cases hc : c < n
  · have hmk := make_uint n n (Nat.le_refl _) (by omega)
    have ho := Own.made .u64 w n 63
    have hu1 : Upd0 w (w.alloc (.cells (madeCells #[.int .u64 0] n) 63)) := (Upd.refl _ _).alloc _
    have hr := hx.own.keep0 hu1
    have hcell1 := hu1.cell (p := ⟨p, 0, none⟩) id hcell
    have hs1 : w.heap.size < (w.alloc (.cells (madeCells #[.int .u64 0] n) 63)).heap.size := by simp
    have hf1 := hu1.frozen (p := ⟨p, 0, none⟩) id hlt
    rw [hfree] at hf1
    generalize hw1 : w.alloc (.cells (madeCells #[.int .u64 0] n) 63) = w1 at *
    have hmk' := hmk w
    rw [hw1] at hmk'
    clear hmk
    go_enter Try.func131, Try.ntmps131
    go_wp2_with (
      refine wpList_copy_ints rfl (.tmp 24) (.tmp 28) 99 99 rfl 63 Try.underlying99 (by kernel_rfl) .u64 w.heap.size n n _ rfl ho (some ⟨b, 0, none⟩) m c _ rfl hr.rd ?_;
      intro w2 h1 h2 h3 hu2;
      have hcell2 := hu2.cell (p := ⟨p, 0, none⟩) (show ¬ p = w.heap.size by omega) hcell1;
      have hf2 : w2.frozen? ⟨p, 0, none⟩ = false := by rw [h3]; exact hf1;
      have hu3 : Upd0 w w2 := hu1.then hu2 (fun i hi h => by omega);
      have HX := hx.regrown hmn hn rfl h1 hf2 hu3 (Nat.lt_of_lt_of_le hs1 hu2.size);
      clear hcell1 hf1 h1 h2 h3)
    go_ret
    exact ⟨rfl, w.heap.size, n, HX, .inr (Nat.le_refl _), (Upd.mono (T := fun k => k = p ∨ k = b) hu3 (fun _ _ h => h.elim)).setCell _ _ (fun _ => .inl rfl)⟩
  · have hnc : n ≤ c := by omega
    have i1 : (m : Int) ≤ (n : Int) := by omega
    have i2 : (n : Int) ≤ (c : Int) := by omega
    by_cases hmc : m = c
    · obtain rfl : n = m := by omega
      subst hmc
      clear i1 i2 hmn' hnc
      go_enter Try.func131, Try.ntmps131
      go_wp2_with fail
      go_quiet (fail)
      rename_i nq
      generalize hwq : w.drewN nq = w1
      have hx1 := hx.drewN nq
      rw [hwq] at hx1
      have hu1 : Upd0 w w1 := by rw [← hwq]; exact (Upd.refl _ _).drewN nq
      clear hcell hfree hlt
      have hcell := hx1.hd
      have hfree := hx1.hf
      have hlt := hx1.hp
      go_wp2_with (
        refine wpList_clear_ints rfl (.tmp 46) 99 rfl 63 .u64 Try.underlying99 (by kernel_rfl) b 0 0 0 rfl (fun j hj => by omega) (fun j hj => by omega) ?_;
        intro w2 h1 h2 h3 hu2;
        have hcell2 := hu2.cell (p := ⟨p, 0, none⟩) hx1.ne hcell;
        have hf2 : w2.frozen? ⟨p, 0, none⟩ = false := by rw [h3]; exact hfree;
        have HX := hx1.stretched hmn (by omega) (fun i hi => by omega) (fun i _ => h2 i (by omega)) h3 hu2;
        clear hcell hfree h1 h2 h3)
      go_ret
      exact ⟨rfl, _, _, HX, .inl rfl, (Upd.then (Upd.mono (T := fun k => k = p ∨ k = b) hu1 (fun _ _ h => h.elim)) hu2 (fun i _ h => .inr h)).setCell _ _ (fun _ => .inl rfl)⟩
    · have hmc' : (m : Int) < (c : Int) := by omega
      go_enter Try.func131, Try.ntmps131
      go_wp2_with fail
      go_quiet (fail)
      rename_i nq
      generalize hwq : w.drewN nq = w1
      have hx1 := hx.drewN nq
      rw [hwq] at hx1
      have hu1 : Upd0 w w1 := by rw [← hwq]; exact (Upd.refl _ _).drewN nq
      clear hcell hfree hlt
      have hcell := hx1.hd
      have hfree := hx1.hf
      have hlt := hx1.hp
      go_wp2_with (
        refine wpList_clear_ints rfl (.tmp 46) 99 rfl 63 .u64 Try.underlying99 (by kernel_rfl) b m (n - m) (c - m) rfl (fun j hj => hx1.room (m + j) (by omega)) (fun j hj => hx1.free (m + j) (by omega)) ?_;
        intro w2 h1 h2 h3 hu2;
        have hcell2 := hu2.cell (p := ⟨p, 0, none⟩) hx1.ne hcell;
        have hf2 : w2.frozen? ⟨p, 0, none⟩ = false := by rw [h3]; exact hfree;
        have HX := hx1.stretched hmn hnc h1 h2 h3 hu2;
        clear hcell hfree h1 h2 h3)
      go_ret
      exact ⟨rfl, _, _, HX, .inl rfl, (Upd.then (Upd.mono (T := fun k => k = p ∨ k = b) hu1 (fun _ _ h => h.elim)) hu2 (fun i _ h => .inr h)).setCell _ _ (fun _ => .inl rfl)⟩

/-- A modulus at mp, as far as its number goes. -/
structure MNat (w : World) (mp q b c n M : Nat) : Prop where
  hm : w.cell? ⟨mp, 0, none⟩ = some (.pointer (some ⟨q, 0, none⟩))
  nat : NatAt w q b c n M
theorem MNat.keep {S : Nat → Prop} {w w' : World} {mp q b c n M : Nat} (h : MNat w mp q b c n M) (hu : Upd S w w') (h0 : ¬ S mp) (h1 : ¬ S q) (h2 : ¬ S b) : MNat w' mp q b c n M :=
  ⟨hu.cell (p := ⟨mp, 0, none⟩) h0 h.hm, h.nat.keep hu h1 h2⟩
theorem MNat.keep0 {w w' : World} {mp q b c n M : Nat} (h : MNat w mp q b c n M) (hu : Upd0 w w') : MNat w' mp q b c n M := h.keep hu id id id
theorem MNat.hp {w : World} {mp q b c n M : Nat} (h : MNat w mp q b c n M) : mp < w.heap.size := World.block_lt_of_cell? _ _ h.hm

set_option maxHeartbeats 1000000 in
theorem resetFor_any (p b c m X mp q b' c' n M : Nat) (w : World) (hx : NatAt w p b c m X) (hm : MNat w mp q b' c' n M) :
    Calls Try.prog 92 #[.pointer (some ⟨p, 0, none⟩), .pointer (some ⟨mp, 0, none⟩)] w fun e w' => e = .returned (.pointer (some ⟨p, 0, none⟩)) ∧ Grown w p b n 0 w' := by
  have h1 := hm.hm
  have h2 := hm.nat.hd
  have h3 := hm.nat.le
  have h4 := hm.nat.sm
  go_enter Try.func92, Try.ntmps92
  go_wp2_with fail
  with_reducible refine (reset_any p b c m X n w hx (by omega)).mono ?_
  rintro e w1 ⟨rfl, hx1⟩
  go_wp2_with fail
  go_ret
  exact ⟨rfl, hx1⟩
set_option maxHeartbeats 1000000 in
theorem expandFor_any (p b c m X mp q b' c' n M : Nat) (w : World) (hx : NatAt w p b c m X) (hm : MNat w mp q b' c' n M) (hmn : m ≤ n) :
    Calls Try.prog 93 #[.pointer (some ⟨p, 0, none⟩), .pointer (some ⟨mp, 0, none⟩)] w fun e w' => e = .returned (.pointer (some ⟨p, 0, none⟩)) ∧ Grown w p b n X w' := by
  have h1 := hm.hm
  have h2 := hm.nat.hd
  have h3 := hm.nat.le
  have h4 := hm.nat.sm
  go_enter Try.func93, Try.ntmps93
  go_wp2_with fail
  with_reducible refine (expand_any p b c m X n w hx hmn (by omega)).mono ?_
  rintro e w1 ⟨rfl, hx1⟩
  go_wp2_with fail
  go_ret
  exact ⟨rfl, hx1⟩

/-- What maybeSubtractModulus leaves. -/
def msN (n always X M : Nat) : Nat := selN (max (1 - ltN X M) always) X (subN n X M)
theorem msN_lt {n always X M : Nat} (hX : X < W64 ^ n) : msN n always X M < W64 ^ n := selN_lt hX (subN_lt _ _ _)
/-- X if it is below M, and X - M otherwise. -/
def redN (X M : Nat) : Nat := if M ≤ X then X - M else X
theorem msN_eq {n T M : Nat} (hM : M < W64 ^ n) (hT : T < M + W64 ^ n) : msN n (T / W64 ^ n) (T % W64 ^ n) M = redN T M := by
  have hp : 0 < W64 ^ n := Nat.pow_pos W64_pos
  unfold msN redN ltN
  generalize hu : W64 ^ n = u at *
  rcases Nat.lt_or_ge T u with h | h
  · rw [Nat.div_eq_of_lt h, Nat.mod_eq_of_lt h]
    by_cases h2 : M ≤ T
    · rw [if_neg (by omega), if_pos h2, ← subN_le (n := n) (by omega) h2]; rfl
    · rw [if_pos (by omega), if_neg h2]; rfl
  · have h1 : T / u = 1 := by
      rw [Nat.div_eq_iff hp]; omega
    have h2 : T % u = T - u := by
      rw [Nat.mod_eq_sub_mod h, Nat.mod_eq_of_lt (by omega)]
    rw [h1, h2, if_pos (show M ≤ T by omega), if_pos (show T - u < M by omega)]
    show subN n (T - u) M = _
    rw [subN_gt (by omega) (by omega), hu]
    omega
theorem redN_mod {T M : Nat} (h : T < 2 * M) : redN T M = T % M := by
  unfold redN
  by_cases h1 : M ≤ T
  · rw [if_pos h1, Nat.mod_eq_sub_mod h1, Nat.mod_eq_of_lt (by omega)]
  · rw [if_neg h1, Nat.mod_eq_of_lt (by omega)]

set_option maxHeartbeats 2000000 in
theorem maybeSub_any (p b c n X al mp q b' c' M : Nat) (w : World) (hx : NatAt w p b c n X) (hm : MNat w mp q b' c' n M) (hal : al ≤ 1) :
    Calls Try.prog 100 #[.pointer (some ⟨p, 0, none⟩), .int .u64 al, .pointer (some ⟨mp, 0, none⟩)] w fun e w' => e = .returned (.tuple #[]) ∧ NatAt w' p b c n (msN n al X M) ∧ Upd (fun k => k = b) w w' := by
  have hle := ltN_le X M
  have hor := or_small (show 1 - ltN X M ≤ 1 by omega) hal
  have hk : max (1 - ltN X M) al ≤ 1 := by omega
  obtain ⟨kp, HK⟩ : ∃ kp, Hid (kp = max (1 - ltN X M) al) := ⟨_, rfl⟩
  rw [← HK.out] at hor hk
  have HR : Hid (selN kp X (subN n X M) = msN n al X M) := by show _ = _; rw [HK.out]; rfl
  have hpl := hx.hp
  have hbl := hx.hb
  have hml := hm.hp
  have hql := hm.nat.hp
  have hbl2 := hm.nat.hb
  go_enter Try.func100, Try.ntmps100
  go_wp2_with fail
  with_reducible refine (newNat_any w).mono ?_
  rintro e w1 ⟨rfl, ht, hu1, hs1⟩
  have hx1 := hx.keep0 hu1
  have hm1 := hm.keep0 hu1
  go_wp2_with fail
  with_reducible refine (set_any (w.heap.size + 1) w.heap.size 32 0 0 p b c n X w1 ht hx1 (by omega) (by omega) (by omega) (by omega)).mono ?_
  rintro e w2 ⟨rfl, b2, c2, ht2, hb2, hu2⟩
  have hx2 := hx1.keep hu2 (by omega) (by omega)
  have hm2 := hm1.keep hu2 (by omega) (by omega) (by omega)
  have hb2' : w.heap.size ≤ b2 := by rcases hb2 with h | h <;> omega
  clear hb2 hx1 hm1 ht
  have hcm := hm2.hm
  go_wp2_with fail
  with_reducible refine (sub_any (w.heap.size + 1) b2 c2 n X q b' c' M w2 ht2 hm2.nat (fun h => by omega)).mono ?_
  rintro e w3 ⟨rfl, ht3, hu3⟩
  have hx3 := hx2.keep hu3 (by omega) (by omega)
  clear hcm hx2 hm2 ht2
  have hnot := not_any (ltN X M) w3 hle
  replace hnot := Lib.hid hnot
  go_wp2_with fail
  with_reducible refine hnot.out.mono ?_
  rintro e w4 ⟨rfl, rfl⟩
  go_wp2_with fail
  with_reducible refine (assign_any p b c n X (w.heap.size + 1) b2 c2 (subN n X M) kp w3 hx3 ht3 hk (fun h => by omega)).mono ?_
  rw [HR.out]
  rintro e w4 ⟨rfl, hx4, hu4⟩
  go_wp2_with fail
  go_end0
  exact ⟨rfl, hx4, ((hu1.mono (fun _ _ h => h.elim)).then hu2 (fun i hi h => by omega)).then hu3 (fun i hi h => by omega) |>.then hu4 (fun i hi h => h)⟩
end Go.Proofs.Ytpojonfopoobpaa

namespace Go.Proofs.Ytpojonfopoobpaa
open Go.RowKit

set_option maxHeartbeats 1000000 in
theorem natAdd_any (p b c n X q b' c' Y mp qm bm cm M : Nat) (w : World) (hx : NatAt w p b c n X) (hy : NatAt w q b' c' n Y) (hm : MNat w mp qm bm cm n M) (hal : b' = b → X = Y) (h1 : mp ≠ b) (h2 : qm ≠ b) (h3 : bm ≠ b) (hT : X + Y < M + W64 ^ n) :
    Calls Try.prog 61 #[.pointer (some ⟨p, 0, none⟩), .pointer (some ⟨q, 0, none⟩), .pointer (some ⟨mp, 0, none⟩)] w fun e w' => e = .returned (.pointer (some ⟨p, 0, none⟩)) ∧ NatAt w' p b c n (redN (X + Y) M) ∧ Upd (fun k => k = b) w w' := by
  have HR := msN_eq hm.nat.lt hT
  have hadd := add_any p b c n X q b' c' Y w hx hy hal
  have hms := fun w1 h h' => maybeSub_any p b c n ((X + Y) % W64 ^ n) (caN X Y n) mp qm bm cm M w1 h h' (caN_le _ _ _)
  rw [caN_all hx.lt hy.lt, HR, ← caN_all hx.lt hy.lt] at hms
  replace hadd := Lib.hid hadd
  replace hms := Lib.hid hms
  go_enter Try.func61, Try.ntmps61
  go_wp2_with fail
  with_reducible refine hadd.out.mono ?_
  rintro e w1 ⟨rfl, hx1, hu1⟩
  have hm1 := hm.keep hu1 h1 h2 h3
  go_wp2_with fail
  with_reducible refine (hms.out w1 hx1 hm1).mono ?_
  rintro e w2 ⟨rfl, hx2, hu2⟩
  go_wp2_with fail
  go_ret
  exact ⟨rfl, hx2, hu1.trans hu2⟩

/-- X - Y, and M more where that is below 0. -/
def mdN (X Y M : Nat) : Nat := if Y ≤ X then X - Y else X + M - Y
theorem mdN_eq {n X Y M : Nat} (hX : X < W64 ^ n) (hY : Y < W64 ^ n) (hM : M < W64 ^ n) (h : Y ≤ X + M) : selN (ltN X Y) (subN n X Y) ((subN n X Y + M) % W64 ^ n) = mdN X Y M := by
  unfold mdN ltN
  by_cases h1 : Y ≤ X
  · rw [if_neg (by omega), if_pos h1, selN_zero, subN_le hX h1]
  · rw [if_pos (by omega), if_neg h1, selN_one, subN_gt hY (by omega)]
    rw [show X + W64 ^ n - Y + M = (X + M - Y) + W64 ^ n by omega, Nat.add_mod_right, Nat.mod_eq_of_lt (by omega)]
theorem mdN_mod {X Y M : Nat} (hX : X < M) (hY : Y ≤ M) : mdN X Y M = (X + M - Y) % M := by
  unfold mdN
  by_cases h1 : Y ≤ X
  · rw [if_pos h1, show X + M - Y = (X - Y) + M by omega, Nat.add_mod_right, Nat.mod_eq_of_lt (by omega)]
  · rw [if_neg h1, Nat.mod_eq_of_lt (by omega)]

set_option maxHeartbeats 2000000 in
theorem natSub_any (p b c n X q b' c' Y mp qm bm cm M : Nat) (w : World) (hx : NatAt w p b c n X) (hy : NatAt w q b' c' n Y) (hm : MNat w mp qm bm cm n M) (hal : b' = b → X = Y) (h1 : mp ≠ b) (h2 : qm ≠ b) (h3 : bm ≠ b) (hT : Y ≤ X + M) :
    Calls Try.prog 87 #[.pointer (some ⟨p, 0, none⟩), .pointer (some ⟨q, 0, none⟩), .pointer (some ⟨mp, 0, none⟩)] w fun e w' => e = .returned (.pointer (some ⟨p, 0, none⟩)) ∧ NatAt w' p b c n (mdN X Y M) ∧ Upd (fun k => k = b) w w' := by
  have HR := mdN_eq hx.lt hy.lt hm.nat.lt hT
  have HR := Lib.hid HR
  have hle := ltN_le X Y
  have hpl := hx.hp
  have hbl := hx.hb
  have hml := hm.hp
  have hql := hm.nat.hp
  have hbl2 := hm.nat.hb
  go_enter Try.func87, Try.ntmps87
  go_wp2_with fail
  with_reducible refine (sub_any p b c n X q b' c' Y w hx hy hal).mono ?_
  rintro e w0 ⟨rfl, hx0, hu0⟩
  have hm0 := hm.keep hu0 h1 h2 h3
  have hs0 := hu0.size
  go_wp2_with fail
  with_reducible refine (newNat_any w0).mono ?_
  rintro e w1 ⟨rfl, ht, hu1, hs1⟩
  have hx1 := hx0.keep0 hu1
  have hm1 := hm0.keep0 hu1
  go_wp2_with fail
  with_reducible refine (set_any (w0.heap.size + 1) w0.heap.size 32 0 0 p b c n (subN n X Y) w1 ht hx1 (by omega) (by omega) (by omega) (by omega)).mono ?_
  rintro e w2 ⟨rfl, b2, c2, ht2, hb2, hu2⟩
  have hx2 := hx1.keep hu2 (by omega) (by omega)
  have hm2 := hm1.keep hu2 (by omega) (by omega) (by omega)
  have hb2' : w0.heap.size ≤ b2 := by rcases hb2 with h | h <;> omega
  clear hb2 hx1 hm1 ht hx0 hm0
  have hcm := hm2.hm
  go_wp2_with fail
  with_reducible refine (add_any (w0.heap.size + 1) b2 c2 n (subN n X Y) qm bm cm M w2 ht2 hm2.nat (fun h => by omega)).mono ?_
  rintro e w3 ⟨rfl, ht3, hu3⟩
  have hx3 := hx2.keep hu3 (by omega) (by omega)
  clear hcm hx2 hm2 ht2
  go_wp2_with fail
  with_reducible refine (assign_any p b c n (subN n X Y) (w0.heap.size + 1) b2 c2 ((subN n X Y + M) % W64 ^ n) (ltN X Y) w3 hx3 ht3 hle (fun h => by omega)).mono ?_
  rw [HR.out]
  rintro e w4 ⟨rfl, hx4, hu4⟩
  go_wp2_with fail
  go_ret
  exact ⟨rfl, hx4, ((hu0.then hu1 (fun _ _ h => h.elim)).then hu2 (fun i hi h => by omega)).then hu3 (fun i hi h => by omega) |>.then hu4 (fun i hi h => h)⟩
end Go.Proofs.Ytpojonfopoobpaa
