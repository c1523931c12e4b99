/-
  Contracts of the package's small functions on one number: NewNat, reset, SetBits, BitLenVarTime.
  Contracts: impl.words, impl.free, BitLenVarTime.
  Contracts: rshift1, ShiftRightByOne, Bits, told.
  Contract of ShiftRightVarTime.
-/
import Derived.Test.YtpojonfopoobpaaGreatImplA
namespace Go.Proofs.YtpojonfopoobpaaGreat
open Go.RowKit

theorem make_uint (n c : Nat) (hn : n ≤ c) (hc : c ≤ 1048576) : ∀ w, (Instr.makeSlice 64 (.int .i64 n) (.int .i64 c)).run Tryz.prog w = .ok (.slice (some ⟨w.heap.size, 0, none⟩) n c) (w.alloc (.cells (madeCells #[.int .u64 0] c) 57)) :=
  run_make_ints (bytes := 8) Tryz.underlying64 info_uint n c hn hc (by omega)

/-- A fresh number: a row of c cells, and the number over it. -/
theorem NatAt.fresh (w : World) (c n t t' : Nat) (hn : n ≤ c) (hc : c ≤ 65536) :
    NatAt ((w.alloc (.cells (madeCells #[.int .u64 0] c) t)).alloc (.cells #[.slice (some ⟨w.heap.size, 0, none⟩) n c] t')) (w.heap.size + 1) w.heap.size c n 0 := by
  have h1 := Own.made .u64 w c t
  have hu : Upd0 (w.alloc (.cells (madeCells #[.int .u64 0] c) t)) ((w.alloc (.cells (madeCells #[.int .u64 0] c) t)).alloc (.cells #[.slice (some ⟨w.heap.size, 0, none⟩) n c] t')) := (Upd.refl _ _).alloc _
  have h2 := h1.keep0 hu
  refine ⟨?_, ?_, hn, hc, Nat.pow_pos W64_pos, (h2.le hn).congr (fun i _ => by rw [dg_of_lt (Nat.pow_pos W64_pos)]), fun i hi => by rw [h2.cell i hi]; rfl, h2.free, by omega, by simp; omega⟩
  · exact World.cell?_alloc_at _ _ _ _ (by simp)
  · exact World.frozen?_alloc_at _ _ _ _ (by simp)

/-- The row of 32 cells that NewNat makes. -/
def row32 : Array Value := madeCells #[.int .u64 0] 32
theorem make_32 : ∀ w, (Instr.makeSlice 64 (.int .i64 0) (.int .i64 32)).run Tryz.prog w = .ok (.slice (some ⟨w.heap.size, 0, none⟩) 0 32) (w.alloc (.cells row32 57)) :=
  make_uint 0 32 (by omega) (by omega)

set_option maxHeartbeats 400000 in
theorem newNat_any (w : World) :
    Calls Tryz.prog 30 #[] w fun e w' => e = .returned (.pointer (some ⟨w.heap.size + 1, 0, none⟩)) ∧ NatAt w' (w.heap.size + 1) w.heap.size 32 0 0 ∧ Upd0 w w' ∧ w'.heap.size = w.heap.size + 2 := by
  have hmk := make_32
  go_enter Tryz.func30, Tryz.ntmps30
  go_wp2
  go_ret
  exact ⟨rfl, NatAt.fresh w 32 0 _ _ (by omega) (by omega), ((Upd.refl _ _).alloc _).alloc _, by simp⟩

/-- The world behind reset: the row has been cleared and the number cut to n limbs. -/
theorem NatAt.resetTo {w w' : World} {p b c m X n k : Nat} (hx : NatAt w p b c m X) (hn : n ≤ c) (hnk : n ≤ k)
    (h1 : ∀ i, i < k → w'.cell? ⟨b, 0 + i, none⟩ = some (.int .u64 0)) (h2 : ∀ i, (i < 0 ∨ 0 + k ≤ i) → w'.cell? ⟨b, i, none⟩ = w.cell? ⟨b, i, none⟩) (h3 : ∀ x, w'.frozen? x = w.frozen? x) (hu : Upd (fun x => x = b) w w') :
    NatAt (w'.setCell ⟨p, 0, none⟩ (.slice (some ⟨b, 0, none⟩) n c)) p b c n 0 := by
  have hne : ∀ i, (⟨p, 0, none⟩ : Addr) ≠ ⟨b, i, none⟩ := fun i e => by cases e; exact hx.ne rfl
  refine ⟨?_, ?_, hn, hx.sm, Nat.pow_pos W64_pos, ⟨fun i hi => ?_, fun i hi => ?_⟩, fun i hi => ?_, fun i hi => ?_, hx.ne, ?_⟩
  · exact World.cell?_setCell_same _ _ _ (hu.cell (p := ⟨p, 0, none⟩) hx.ne hx.hd)
  · rw [World.frozen?_setCell, h3]; exact hx.hf
  · rw [World.cell?_setCell_other _ _ _ _ (hne i)]
    have := h1 i (by omega)
    rw [Nat.zero_add] at this
    rw [this, dg_of_lt (Nat.pow_pos W64_pos)]; rfl
  · rw [World.frozen?_setCell, h3]; exact hx.free i (by omega)
  · rw [World.cell?_setCell_other _ _ _ _ (hne i)]
    by_cases hik : i < k
    · have := h1 i hik
      rw [Nat.zero_add] at this
      rw [this]; rfl
    · rw [h2 i (by omega)]; exact hx.room i hi
  · rw [World.frozen?_setCell, h3]; exact hx.free i hi
  · rw [World.size_setCell]; exact Nat.lt_of_lt_of_le hx.hb hu.size

/-- The world behind reset: the number has got a new row. -/
theorem NatAt.resetNew {w : World} {p b c m X n t : Nat} (hx : NatAt w p b c m X) (hn : n ≤ 65536) :
    NatAt ((w.setCell ⟨p, 0, none⟩ (.slice (some ⟨w.heap.size, 0, none⟩) n n)).alloc (.cells (madeCells #[.int .u64 0] n) t)) p w.heap.size n n 0 := by
  have h1 := Own.made .u64 w n t
  have hp := hx.hp
  rw [← World.setCell_alloc_past _ _ _ _ hp]
  have hne : ∀ i, (⟨p, 0, none⟩ : Addr) ≠ ⟨w.heap.size, i, none⟩ := fun i e => by cases e; omega
  have h2 : Own .u64 ((w.alloc (.cells (madeCells #[.int .u64 0] n) t)).setCell ⟨p, 0, none⟩ (.slice (some ⟨w.heap.size, 0, none⟩) n n)) w.heap.size n (fun _ => 0) :=
    ⟨fun i hi => by rw [World.cell?_setCell_other _ _ _ _ (hne i)]; exact h1.cell i hi, fun i hi => by rw [World.frozen?_setCell]; exact h1.free i hi⟩
  have hu : Upd0 w (w.alloc (.cells (madeCells #[.int .u64 0] n) t)) := (Upd.refl _ _).alloc _
  refine ⟨?_, ?_, Nat.le_refl _, hn, Nat.pow_pos W64_pos, h2.congr (fun i _ => by rw [dg_of_lt (Nat.pow_pos W64_pos)]), fun i hi => by rw [h2.cell i hi]; rfl, h2.free, by omega, by simp⟩
  · exact World.cell?_setCell_same _ _ _ (hu.cell (p := ⟨p, 0, none⟩) id hx.hd)
  · rw [World.frozen?_setCell, hu.frozen (p := ⟨p, 0, none⟩) id hp]; exact hx.hf

set_option maxRecDepth 100000 in
set_option maxHeartbeats 400000 in
theorem reset_any (p b c m X n : Nat) (w : World) (hx : NatAt w p b c m X) (hn : n ≤ 65536) :
    Calls Tryz.prog 61 #[.pointer (some ⟨p, 0, none⟩), .int .i64 n] w fun e w' => e = .returned (.pointer (some ⟨p, 0, none⟩)) ∧ ∃ b' c', NatAt w' p b' c' n 0 ∧ NewB w b b' ∧ Upd (fun k => k = p ∨ k = b) w w' := by
  have hcell := hx.hd
  have hfree := hx.hf
  have hlt := hx.hp
  have hle := hx.le
  have hsm := hx.sm
  by_cases hc : c < n
  · have hmk := make_uint n n (Nat.le_refl _) (by omega)
    go_enter Tryz.func61, Tryz.ntmps61
    go_wp2
    go_ret
    exact ⟨rfl, w.heap.size, n, hx.resetNew hn, .inr (Nat.le_refl _), ((Upd.refl _ _).setCell _ _ (fun _ => .inl rfl)).alloc _⟩
  · by_cases hmn : n < m
    · have hmn' : (n : Int) < (m : Int) := by omega
      go_enter Tryz.func61, Tryz.ntmps61
      go_wp2_with fail
      go_still_tail 12, (by kernel_rfl)
      change wpList _ _ _ _ _ w.drew
      refine wpList_clear_ints rfl (.tmp 29) 64 rfl 57 .u64 Tryz.underlying64 (by kernel_rfl) b 0 m c rfl (fun j hj => by rw [Nat.zero_add]; exact hx.room j (by omega)) (fun j hj => by rw [Nat.zero_add]; exact hx.free j (by omega)) ?_
      intro w1 h1 h2 h3 hu
      have hcell1 : w1.cell? ⟨p, 0, none⟩ = some (.slice (some ⟨b, 0, none⟩) m c) := hu.cell (p := ⟨p, 0, none⟩) hx.ne hcell
      have hfree1 : w1.frozen? ⟨p, 0, none⟩ = false := by rw [h3]; exact hfree
      have HX : NatAt (w1.setCell ⟨p, 0, none⟩ (.slice (some ⟨b, 0, none⟩) n c)) p b c n 0 := hx.drew.resetTo (by omega) (by omega) h1 h2 h3 hu
      clear h1 h2 h3
      go_wp2
      go_ret
      exact ⟨rfl, b, c, HX, .inl rfl, (hu.of_drew.mono (fun _ _ h => .inr h)).setCell _ _ (fun _ => .inl rfl)⟩
    · have hmn' : ¬ (n : Int) < (m : Int) := by omega
      have hnc : n ≤ c := by omega
      go_enter Tryz.func61, Tryz.ntmps61
      go_wp2_with fail
      go_still_tail 12, (by kernel_rfl)
      change wpList _ _ _ _ _ w.drew
      refine wpList_clear_ints rfl (.tmp 29) 64 rfl 57 .u64 Tryz.underlying64 (by kernel_rfl) b 0 n c rfl (fun j hj => by rw [Nat.zero_add]; exact hx.room j (by omega)) (fun j hj => by rw [Nat.zero_add]; exact hx.free j (by omega)) ?_
      intro w1 h1 h2 h3 hu
      have hcell1 : w1.cell? ⟨p, 0, none⟩ = some (.slice (some ⟨b, 0, none⟩) m c) := hu.cell (p := ⟨p, 0, none⟩) hx.ne hcell
      have hfree1 : w1.frozen? ⟨p, 0, none⟩ = false := by rw [h3]; exact hfree
      have HX : NatAt (w1.setCell ⟨p, 0, none⟩ (.slice (some ⟨b, 0, none⟩) n c)) p b c n 0 := hx.drew.resetTo (by omega) (by omega) h1 h2 h3 hu
      clear h1 h2 h3
      go_wp2
      go_ret
      exact ⟨rfl, b, c, HX, .inl rfl, (hu.of_drew.mono (fun _ _ h => .inr h)).setCell _ _ (fun _ => .inl rfl)⟩

/-- The limbs of a number have been written. -/
theorem NatAt.written {w w' : World} {p b c n X Y : Nat} (hx : NatAt w p b c n X) (hY : Y < W64 ^ n) (h1 : Own .u64 w' b n (dg W64 Y)) (h2 : ∀ i, n ≤ i → w'.cell? ⟨b, i, none⟩ = w.cell? ⟨b, i, none⟩) (h3 : ∀ x, w'.frozen? x = w.frozen? x) (hu : Upd (fun x => x = b) w w') :
    NatAt w' p b c n Y where
  hd := hu.cell (p := ⟨p, 0, none⟩) hx.ne hx.hd
  hf := by rw [h3]; exact hx.hf
  le := hx.le
  sm := hx.sm
  lt := hY
  own := h1
  room := fun i hi => by
    by_cases h : i < n
    · rw [h1.cell i h]; rfl
    · rw [h2 i (by omega)]; exact hx.room i hi
  free := fun i hi => by rw [h3]; exact hx.free i hi
  ne := hx.ne
  hb := Nat.lt_of_lt_of_le hx.hb hu.size

/-- Since w only the first n cells of block b have been written; they are f 0, f 1, .. -/
structure Wrote (w wr : World) (b n : Nat) (f : Nat → Nat) : Prop where
  own : Own .u64 wr b n f
  rest : ∀ i, n ≤ i → wr.cell? ⟨b, i, none⟩ = w.cell? ⟨b, i, none⟩
  froz : ∀ x, wr.frozen? x = w.frozen? x
  upd : Upd (fun k => k = b) w wr
theorem Wrote.start {w : World} {b n : Nat} {f : Nat → Nat} (h : Own .u64 w b n f) : Wrote w w b n f := ⟨h, fun _ _ => rfl, fun _ => rfl, .refl _ _⟩
theorem Wrote.congr {w wr : World} {b n : Nat} {f g : Nat → Nat} (h : Wrote w wr b n f) (e : ∀ i, i < n → f i = g i) : Wrote w wr b n g := ⟨h.own.congr e, h.rest, h.froz, h.upd⟩
theorem Wrote.drew {w wr : World} {b n : Nat} {f : Nat → Nat} (h : Wrote w wr b n f) : Wrote w wr.drew b n f := ⟨h.own.drew, h.rest, h.froz, h.upd.drew⟩
theorem Wrote.drewN {w wr : World} {b n : Nat} {f : Nat → Nat} (h : Wrote w wr b n f) (k : Nat) : Wrote w (wr.drewN k) b n f := ⟨h.own.drewN k, h.rest, h.froz, h.upd.drewN k⟩
theorem Wrote.set {w wr : World} {b n : Nat} {f : Nat → Nat} (h : Wrote w wr b n f) {i : Nat} (hi : i < n) (v : Nat) {z : Int} (hz : z = v) :
    Wrote w (wr.setCell ⟨b, i, none⟩ (.int .u64 z)) b n (fun j => if j = i then v else f j) := by
  subst hz
  refine ⟨h.own.set hi v, fun j hj => ?_, fun x => by rw [World.frozen?_setCell]; exact h.froz x, h.upd.setCell _ _ (fun _ => rfl)⟩
  rw [World.cell?_setCell_other _ _ _ _ (by intro e; cases e; omega)]
  exact h.rest j hj
theorem Wrote.limb {w wr : World} {b n : Nat} {f : Nat → Nat} (h : Wrote w wr b n f) {j : Nat} (hj : j < n) (hf : f j < 18446744073709551616) :
    ∃ d, wr.cell? ⟨b, j, none⟩ = some (.int .u64 (d : Nat)) ∧ wr.frozen? ⟨b, j, none⟩ = false ∧ d < 18446744073709551616 ∧ Hid (d = f j) :=
  ⟨_, h.own.cell j hj, h.own.free j hj, hf, rfl⟩
theorem NatAt.wrote {w w' : World} {p b c n X Y : Nat} (hx : NatAt w p b c n X) (h : Wrote w w' b n (dg W64 Y)) (hY : Y < W64 ^ n) : NatAt w' p b c n Y :=
  hx.written hY h.own h.rest h.froz h.upd
theorem NatAt.wrote_hd {w w' : World} {p b c n X : Nat} {f : Nat → Nat} (hx : NatAt w p b c n X) (h : Wrote w w' b n f) : w'.cell? ⟨p, 0, none⟩ = some (.slice (some ⟨b, 0, none⟩) n c) :=
  h.upd.cell (p := ⟨p, 0, none⟩) hx.ne hx.hd
end Go.Proofs.YtpojonfopoobpaaGreat

namespace Go.Proofs.YtpojonfopoobpaaGreat
open Go.RowKit

/-- A new number of no modulus is returned. -/
def RetFree (w : World) (N : Nat) (e : Ending) (w' : World) : Prop :=
  ∃ p b c, e = .returned (.pointer (some ⟨p, 0, none⟩)) ∧ NatAt w' p b c ((nb N + 7) / 8) N ∧ w.heap.size ≤ p ∧ w.heap.size ≤ b ∧ Upd0 w w'

theorem lt_limbs (N : Nat) : N < W64 ^ ((nb N + 7) / 8) := by
  refine Nat.lt_of_lt_of_le (lt_pow_nb N) ?_
  rw [powW, pow8]
  exact Nat.pow_le_pow_right (by omega) (by omega)

/-- A limb that is read, behind a name. -/
theorem NatAt.limb {w : World} {p b c n X j : Nat} (h : NatAt w p b c n X) (hj : j < n) :
    ∃ d, w.cell? ⟨b, j, none⟩ = some (.int .u64 (d : Nat)) ∧ d < 18446744073709551616 ∧ Hid (d = dg W64 X j) :=
  ⟨_, h.own.cell j hj, limb_lt _ _, rfl⟩

set_option maxHeartbeats 400000 in
theorem bitLen_any (n : Nat) (w : World) (hn : n < 18446744073709551616) :
    Calls Tryz.prog 101 #[.int .u64 n] w fun e w' => e = .returned (.int .i64 (blen n)) ∧ w = w' := by
  have hb : blen n ≤ 64 := (blen_le_iff 64 n).2 hn
  go_enter Tryz.func101, Tryz.ntmps101
  go_wp2
  go_loop [0, 3] (fun x i => ∃ m k : Nat, m ≤ n ∧ x = .int .u64 m ∧ i = .int .i64 k ∧ Hid (k + blen m = blen n)) (fun x _ => (intOf x).toNat)
  case atStart => exact ⟨n, 0, Nat.le_refl _, rfl, rfl, by show 0 + _ = _; omega⟩
  case round =>
    obtain ⟨m, k, hm, rfl, rfl, HK⟩ := hrel
    have hk : k ≤ 64 := by have := HK.out; omega
    by_cases h0 : m = 0
    · subst h0
      go_wp2
      go_ret
      exact ⟨ret_nat (by have := HK.out; rw [blen_zero] at this; omega), rfl⟩
    · have h0' : ((m : Int) != 0) = true := by rw [bne_iff_ne]; omega
      have HK2 : Hid (k + 1 + blen (m / 2) = blen n) := by show _ = _; rw [← HK.out, blen_half m h0]; omega
      clear hb
      go_wp2
      go_round
      case rel => exact ⟨m / 2, k + 1, by omega, by go_num, by go_num, HK2⟩
      case measure => simp [intOf]; omega

set_option maxRecDepth 100000 in
set_option maxHeartbeats 400000 in
theorem bitLenVT_any (p b c n X : Nat) (w : World) (hx : NatAt w p b c n X) :
    Calls Tryz.prog 90 #[.pointer (some ⟨p, 0, none⟩)] w fun e w' => e = .returned (.int .i64 (blen X)) ∧ w = w' := by
  have hcell := hx.hd
  have hle := hx.le
  have hsm := hx.sm
  have HX : Hid (X < W64 ^ n) := hx.lt
  go_enter Tryz.func90, Tryz.ntmps90
  go_wp2
  go_loop [5] (fun i => ∃ k : Nat, k ≤ n ∧ i = .int .i64 ((k : Int) - 1) ∧ Hid (X < W64 ^ k)) (fun i => (intOf i + 1).toNat)
  case atStart => exact ⟨n, Nat.le_refl _, rfl, HX⟩
  case round =>
    obtain ⟨k, hk, rfl, HK⟩ := hrel
    by_cases h0 : k = 0
    · subst h0
      have hX0 : Hid (X = 0) := by have := HK.out; show X = 0; simpa using this
      go_wp2
      go_ret
      exact ⟨ret_int (by rw [hX0.out]; rfl), rfl⟩
    · obtain ⟨j, rfl⟩ : ∃ j, k = j + 1 := ⟨k - 1, by omega⟩
      obtain ⟨d, hd, hdl, HD⟩ := hx.limb (show j < n by omega)
      by_cases hz : d = 0
      · subst hz
        go_wp2
        go_round
        case rel => exact ⟨j, by omega, rfl, lt_of_no_topW HK.out HD.out.symm⟩
        case measure => simp [intOf]
      · have hz' : ((d : Int) != 0) = true := by rw [bne_iff_ne]; omega
        have HB : Hid (blen X = 64 * j + blen d) := by show _ = _; rw [HD.out]; exact blen_topW HK.out (by rw [← HD.out]; exact hz)
        have hb64 : blen d ≤ 64 := (blen_le_iff 64 d).2 hdl
        go_wp2_with (go_at_call 101; refine (bitLen_any _ _ hdl).mono ?_; rintro e w' ⟨rfl, rfl⟩)
        go_ret
        exact ⟨ret_int (by rw [HB.out]; go_num), rfl⟩
end Go.Proofs.YtpojonfopoobpaaGreat

namespace Go.Proofs.YtpojonfopoobpaaGreat
open Go.RowKit

set_option maxRecDepth 100000 in
set_option maxHeartbeats 1000000 in
theorem rshift1_any (p b c n X cy : Nat) (w : World) (hx : NatAt w p b c n X) (hcy : cy ≤ 1) :
    Calls Tryz.prog 85 #[.pointer (some ⟨p, 0, none⟩), .int .u64 cy] w fun e w' => e = .returned (.tuple #[]) ∧ NatAt w' p b c n ((X + cy * W64 ^ n) / 2) ∧ Upd (fun k => k = b) w w' := by
  have hcell := hx.hd
  have hle := hx.le
  have hsm := hx.sm
  go_enter Tryz.func85, Tryz.ntmps85
  go_wp2
  go_loopw [19] (fun i wr => ∃ k : Nat, k ≤ n ∧ i = .int .i64 k ∧ Wrote w wr b n (fun j => if j < k then dg W64 ((X + cy * W64 ^ n) / 2) j else dg W64 X j)) (fun i _ => n - (intOf i).toNat)
  case atStart => exact ⟨0, Nat.zero_le _, rfl, .start (hx.own.congr (fun j _ => by rw [if_neg (Nat.not_lt_zero j)]))⟩
  case round =>
    obtain ⟨k, hk, rfl, hw⟩ := hrel
    by_cases hlt : k < n
    · obtain ⟨d, hc1, hf1, hd, HD⟩ := hw.limb hlt (by rw [if_neg (Nat.lt_irrefl k)]; exact limb_lt _ _)
      have HD : Hid (d = dg W64 X k) := by rw [if_neg (Nat.lt_irrefl k)] at HD; exact HD
      have hw1 := hw.set hlt (d / 2) (z := (d : Int) / 2) (by omega)
      have hf2 := hw1.own.free k hlt
      have hc3 := hw1.own.cell k hlt
      rw [if_pos rfl, show ((d / 2 : Nat) : Int) = (d : Int) / 2 from by omega] at hc3
      by_cases hlt2 : k + 1 < n
      · obtain ⟨d', hc2, _, hd', HD'⟩ := hw1.limb hlt2 (by rw [if_neg (by omega), if_neg (by omega)]; exact limb_lt _ _)
        have HD' : Hid (d' = dg W64 X (k + 1)) := by rw [if_neg (by omega), if_neg (by omega)] at HD'; exact HD'
        have HV : Hid (d / 2 + d' % 2 * 9223372036854775808 = dg W64 ((X + cy * W64 ^ n) / 2) k) := by
          show _ = _
          rw [dg_half, dg_carry cy hx.lt hcy, dg_carry cy hx.lt hcy, if_pos hlt, if_pos hlt2, HD.out, HD'.out]
        have i1 : (k : Int) < (n : Int) := by omega
        have i2 : (0 : Int) ≤ (k : Int) := by omega
        have i3 : ((k : Int)).toNat = k := by omega
        have i4 : (k : Int) + 1 < (n : Int) := by omega
        have i5 : (0 : Int) ≤ (k : Int) + 1 := by omega
        have i6 : ((k : Int) + 1).toNat = k + 1 := by omega
        have e1 := w64 ((k : Int) + 1) (by omega) (by omega)
        go_wp2_with fail
        generalize wr.setCell ⟨b, k, none⟩ (.int .u64 ((d : Int) / 2)) = wq at *
        go_still_tail 12, (by kernel_rfl)
        change wpList _ _ _ _ _ wq.drew
        go_wp2
        go_roundw
        case rel => exact ⟨k + 1, by omega, by go_num, by
          refine (hw1.drew.set hlt _ (or_half d d' hd)).congr fun j hj => ?_
          rw [HV.out]
          by_cases e : j = k
          · subst e; rw [if_pos rfl, if_pos (by omega)]
          · rw [if_neg e, if_neg e]
            by_cases e2 : j < k
            · rw [if_pos e2, if_pos (by omega)]
            · rw [if_neg e2, if_neg (by omega)]⟩
        case measure => simp [intOf]; omega
      · have HV : Hid (d / 2 + cy % 2 * 9223372036854775808 = dg W64 ((X + cy * W64 ^ n) / 2) k) := by
          show _ = _
          rw [dg_half, dg_carry cy hx.lt hcy, dg_carry cy hx.lt hcy, if_pos hlt, if_neg hlt2, if_pos (by omega), HD.out]
        go_wp2
        go_roundw
        case rel => exact ⟨k + 1, by omega, by go_num, by
          have hoh := or_half d cy hd
          rw [IntWalk.u64_in ((cy : Int) * 9223372036854775808) (by omega)] at hoh
          refine (hw1.set hlt _ hoh).congr fun j hj => ?_
          rw [HV.out]
          by_cases e : j = k
          · subst e; rw [if_pos rfl, if_pos (by omega)]
          · rw [if_neg e, if_neg e]
            by_cases e2 : j < k
            · rw [if_pos e2, if_pos (by omega)]
            · rw [if_neg e2, if_neg (by omega)]⟩
        case measure => simp [intOf]; omega
    · obtain rfl : k = n := by omega
      have hY : (X + cy * W64 ^ k) / 2 < W64 ^ k := by
        have h1 : cy * W64 ^ k ≤ 1 * W64 ^ k := Nat.mul_le_mul_right _ hcy
        have := hx.lt
        omega
      have hX : NatAt wr p b c k ((X + cy * W64 ^ k) / 2) := hx.wrote (hw.congr fun j hj => by rw [if_pos hj]) hY
      have hu := hw.upd
      clear hw hY
      go_wp2
      go_end0
      exact ⟨rfl, hX, hu⟩


end Go.Proofs.YtpojonfopoobpaaGreat

namespace Go.Proofs.YtpojonfopoobpaaGreat
open Go.RowKit

end Go.Proofs.YtpojonfopoobpaaGreat
