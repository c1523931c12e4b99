/-
  Contracts of the package's small functions on one number: NewNat, reset, SetBits, BitLenVarTime.
  Contracts: impl.words, impl.free, BitLenVarTime.
  Contracts: rshift1, ShiftRightByOne, Bits, told.
  Contract of ShiftRightVarTime.
-/
import Derived.Test.YtpojonfopoobpaaImplA
namespace Go.Proofs.Ytpojonfopoobpaa
open Go.RowKit

theorem make_uint (n c : Nat) (hn : n ≤ c) (hc : c ≤ 1048576) : ∀ w, (Instr.makeSlice 99 (.int .i64 n) (.int .i64 c)).run Try.prog w = .ok (.slice (some ⟨w.heap.size, 0, none⟩) n c) (w.alloc (.cells (madeCells #[.int .u64 0] c) 63)) :=
  run_make_ints (bytes := 8) Try.underlying99 info_uint n c hn hc (by omega)

/-- A fresh number: a row of c cells, and the number over it. -/
theorem NatAt.fresh (w : World) (c n t t' : Nat) (hn : n ≤ c) (hc : c ≤ 65536) :
    NatAt ((w.alloc (.cells (madeCells #[.int .u64 0] c) t)).alloc (.cells #[.slice (some ⟨w.heap.size, 0, none⟩) n c] t')) (w.heap.size + 1) w.heap.size c n 0 := by
  have h1 := Own.made .u64 w c t
  have hu : Upd0 (w.alloc (.cells (madeCells #[.int .u64 0] c) t)) ((w.alloc (.cells (madeCells #[.int .u64 0] c) t)).alloc (.cells #[.slice (some ⟨w.heap.size, 0, none⟩) n c] t')) := (Upd.refl _ _).alloc _
  have h2 := h1.keep0 hu
  refine ⟨?_, ?_, hn, hc, Nat.pow_pos W64_pos, (h2.le hn).congr (fun i _ => by rw [dg_of_lt (Nat.pow_pos W64_pos)]), fun i hi => by rw [h2.cell i hi]; rfl, h2.free, by omega, by simp; omega⟩
  · exact World.cell?_alloc_at _ _ _ _ (by simp)
  · exact World.frozen?_alloc_at _ _ _ _ (by simp)

/-- The row of 32 cells that NewNat makes. -/
def row32 : Array Value := madeCells #[.int .u64 0] 32
theorem make_32 : ∀ w, (Instr.makeSlice 99 (.int .i64 0) (.int .i64 32)).run Try.prog w = .ok (.slice (some ⟨w.heap.size, 0, none⟩) 0 32) (w.alloc (.cells row32 63)) :=
  make_uint 0 32 (by omega) (by omega)

set_option maxHeartbeats 400000 in
theorem newNat_any (w : World) :
    Calls Try.prog 59 #[] w fun e w' => e = .returned (.pointer (some ⟨w.heap.size + 1, 0, none⟩)) ∧ NatAt w' (w.heap.size + 1) w.heap.size 32 0 0 ∧ Upd0 w w' ∧ w'.heap.size = w.heap.size + 2 := by
  have hmk := make_32
  go_enter Try.func59, Try.ntmps59
  go_wp2
  go_ret
  exact ⟨rfl, NatAt.fresh w 32 0 _ _ (by omega) (by omega), ((Upd.refl _ _).alloc _).alloc _, by simp⟩

/-- The world behind reset: the row has been cleared and the number cut to n limbs. -/
theorem NatAt.resetTo {w w' : World} {p b c m X n k : Nat} (hx : NatAt w p b c m X) (hn : n ≤ c) (hnk : n ≤ k)
    (h1 : ∀ i, i < k → w'.cell? ⟨b, 0 + i, none⟩ = some (.int .u64 0)) (h2 : ∀ i, (i < 0 ∨ 0 + k ≤ i) → w'.cell? ⟨b, i, none⟩ = w.cell? ⟨b, i, none⟩) (h3 : ∀ x, w'.frozen? x = w.frozen? x) (hu : Upd (fun x => x = b) w w') :
    NatAt (w'.setCell ⟨p, 0, none⟩ (.slice (some ⟨b, 0, none⟩) n c)) p b c n 0 := by
  have hne : ∀ i, (⟨p, 0, none⟩ : Addr) ≠ ⟨b, i, none⟩ := fun i e => by cases e; exact hx.ne rfl
  refine ⟨?_, ?_, hn, hx.sm, Nat.pow_pos W64_pos, ⟨fun i hi => ?_, fun i hi => ?_⟩, fun i hi => ?_, fun i hi => ?_, hx.ne, ?_⟩
  · exact World.cell?_setCell_same _ _ _ (hu.cell (p := ⟨p, 0, none⟩) hx.ne hx.hd)
  · rw [World.frozen?_setCell, h3]; exact hx.hf
  · rw [World.cell?_setCell_other _ _ _ _ (hne i)]
    have := h1 i (by omega)
    rw [Nat.zero_add] at this
    rw [this, dg_of_lt (Nat.pow_pos W64_pos)]; rfl
  · rw [World.frozen?_setCell, h3]; exact hx.free i (by omega)
  · rw [World.cell?_setCell_other _ _ _ _ (hne i)]
    by_cases hik : i < k
    · have := h1 i hik
      rw [Nat.zero_add] at this
      rw [this]; rfl
    · rw [h2 i (by omega)]; exact hx.room i hi
  · rw [World.frozen?_setCell, h3]; exact hx.free i hi
  · rw [World.size_setCell]; exact Nat.lt_of_lt_of_le hx.hb hu.size

/-- The world behind reset: the number has got a new row. -/
theorem NatAt.resetNew {w : World} {p b c m X n t : Nat} (hx : NatAt w p b c m X) (hn : n ≤ 65536) :
    NatAt ((w.setCell ⟨p, 0, none⟩ (.slice (some ⟨w.heap.size, 0, none⟩) n n)).alloc (.cells (madeCells #[.int .u64 0] n) t)) p w.heap.size n n 0 := by
  have h1 := Own.made .u64 w n t
  have hp := hx.hp
  rw [← World.setCell_alloc_past _ _ _ _ hp]
  have hne : ∀ i, (⟨p, 0, none⟩ : Addr) ≠ ⟨w.heap.size, i, none⟩ := fun i e => by cases e; omega
  have h2 : Own .u64 ((w.alloc (.cells (madeCells #[.int .u64 0] n) t)).setCell ⟨p, 0, none⟩ (.slice (some ⟨w.heap.size, 0, none⟩) n n)) w.heap.size n (fun _ => 0) :=
    ⟨fun i hi => by rw [World.cell?_setCell_other _ _ _ _ (hne i)]; exact h1.cell i hi, fun i hi => by rw [World.frozen?_setCell]; exact h1.free i hi⟩
  have hu : Upd0 w (w.alloc (.cells (madeCells #[.int .u64 0] n) t)) := (Upd.refl _ _).alloc _
  refine ⟨?_, ?_, Nat.le_refl _, hn, Nat.pow_pos W64_pos, h2.congr (fun i _ => by rw [dg_of_lt (Nat.pow_pos W64_pos)]), fun i hi => by rw [h2.cell i hi]; rfl, h2.free, by omega, by simp⟩
  · exact World.cell?_setCell_same _ _ _ (hu.cell (p := ⟨p, 0, none⟩) id hx.hd)
  · rw [World.frozen?_setCell, hu.frozen (p := ⟨p, 0, none⟩) id hp]; exact hx.hf

set_option maxRecDepth 100000 in
set_option maxHeartbeats 400000 in
theorem reset_any (p b c m X n : Nat) (w : World) (hx : NatAt w p b c m X) (hn : n ≤ 65536) :
    Calls Try.prog 105 #[.pointer (some ⟨p, 0, none⟩), .int .i64 n] w fun e w' => e = .returned (.pointer (some ⟨p, 0, none⟩)) ∧ ∃ b' c', NatAt w' p b' c' n 0 ∧ NewB w b b' ∧ Upd (fun k => k = p ∨ k = b) w w' := by
  have hcell := hx.hd
  have hfree := hx.hf
  have hlt := hx.hp
  have hle := hx.le
  have hsm := hx.sm
  by_cases hc : c < n
  · have hmk := make_uint n n (Nat.le_refl _) (by omega)
    go_enter Try.func105, Try.ntmps105
    go_wp2
    go_ret
    exact ⟨rfl, w.heap.size, n, hx.resetNew hn, .inr (Nat.le_refl _), ((Upd.refl _ _).setCell _ _ (fun _ => .inl rfl)).alloc _⟩
  · by_cases hmn : n < m
    · have hmn' : (n : Int) < (m : Int) := by omega
      go_enter Try.func105, Try.ntmps105
      go_wp2_with fail
      go_still_tail 12, (by kernel_rfl)
      change wpList _ _ _ _ _ w.drew
      refine wpList_clear_ints rfl (.tmp 29) 99 rfl 63 .u64 Try.underlying99 (by kernel_rfl) b 0 m c rfl (fun j hj => by rw [Nat.zero_add]; exact hx.room j (by omega)) (fun j hj => by rw [Nat.zero_add]; exact hx.free j (by omega)) ?_
      intro w1 h1 h2 h3 hu
      have hcell1 : w1.cell? ⟨p, 0, none⟩ = some (.slice (some ⟨b, 0, none⟩) m c) := hu.cell (p := ⟨p, 0, none⟩) hx.ne hcell
      have hfree1 : w1.frozen? ⟨p, 0, none⟩ = false := by rw [h3]; exact hfree
      have HX : NatAt (w1.setCell ⟨p, 0, none⟩ (.slice (some ⟨b, 0, none⟩) n c)) p b c n 0 := hx.drew.resetTo (by omega) (by omega) h1 h2 h3 hu
      clear h1 h2 h3
      go_wp2
      go_ret
      exact ⟨rfl, b, c, HX, .inl rfl, (hu.of_drew.mono (fun _ _ h => .inr h)).setCell _ _ (fun _ => .inl rfl)⟩
    · have hmn' : ¬ (n : Int) < (m : Int) := by omega
      have hnc : n ≤ c := by omega
      go_enter Try.func105, Try.ntmps105
      go_wp2_with fail
      go_still_tail 12, (by kernel_rfl)
      change wpList _ _ _ _ _ w.drew
      refine wpList_clear_ints rfl (.tmp 29) 99 rfl 63 .u64 Try.underlying99 (by kernel_rfl) b 0 n c rfl (fun j hj => by rw [Nat.zero_add]; exact hx.room j (by omega)) (fun j hj => by rw [Nat.zero_add]; exact hx.free j (by omega)) ?_
      intro w1 h1 h2 h3 hu
      have hcell1 : w1.cell? ⟨p, 0, none⟩ = some (.slice (some ⟨b, 0, none⟩) m c) := hu.cell (p := ⟨p, 0, none⟩) hx.ne hcell
      have hfree1 : w1.frozen? ⟨p, 0, none⟩ = false := by rw [h3]; exact hfree
      have HX : NatAt (w1.setCell ⟨p, 0, none⟩ (.slice (some ⟨b, 0, none⟩) n c)) p b c n 0 := hx.drew.resetTo (by omega) (by omega) h1 h2 h3 hu
      clear h1 h2 h3
      go_wp2
      go_ret
      exact ⟨rfl, b, c, HX, .inl rfl, (hu.of_drew.mono (fun _ _ h => .inr h)).setCell _ _ (fun _ => .inl rfl)⟩

/-- The limbs of a number have been written. -/
theorem NatAt.written {w w' : World} {p b c n X Y : Nat} (hx : NatAt w p b c n X) (hY : Y < W64 ^ n) (h1 : Own .u64 w' b n (dg W64 Y)) (h2 : ∀ i, n ≤ i → w'.cell? ⟨b, i, none⟩ = w.cell? ⟨b, i, none⟩) (h3 : ∀ x, w'.frozen? x = w.frozen? x) (hu : Upd (fun x => x = b) w w') :
    NatAt w' p b c n Y where
  hd := hu.cell (p := ⟨p, 0, none⟩) hx.ne hx.hd
  hf := by rw [h3]; exact hx.hf
  le := hx.le
  sm := hx.sm
  lt := hY
  own := h1
  room := fun i hi => by
    by_cases h : i < n
    · rw [h1.cell i h]; rfl
    · rw [h2 i (by omega)]; exact hx.room i hi
  free := fun i hi => by rw [h3]; exact hx.free i hi
  ne := hx.ne
  hb := Nat.lt_of_lt_of_le hx.hb hu.size

set_option maxRecDepth 100000 in
set_option maxHeartbeats 400000 in
theorem setBits_any (p b c m0 X n cy : Nat) (ay : Option Addr) (g : Nat → Nat) (w : World) (hx : NatAt w p b c m0 X) (hn : n ≤ 65536) (hr : Rd .u64 w ay n g) (hg : ∀ i, i < n → g i < W64) (hne : ∀ x off, ay = some ⟨x, off, none⟩ → x ≠ p ∧ x ≠ b) :
    Calls Try.prog 111 #[.pointer (some ⟨p, 0, none⟩), .slice ay n cy] w fun e w' => e = .returned (.pointer (some ⟨p, 0, none⟩)) ∧ ∃ b' c', NatAt w' p b' c' n (ofD W64 g n) ∧ NewB w b b' ∧ Upd (fun k => k = p ∨ k = b) w w' := by
  go_enter Try.func111, Try.ntmps111
  go_wp2_with fail
  refine (reset_any p b c m0 X n w hx hn).mono ?_
  rintro e w1 ⟨rfl, b1, c1, hx1, hb1, hu1⟩
  have hr1 : Rd .u64 w1 ay n g := by
    rcases Nat.eq_zero_or_pos n with h0 | h0
    · subst h0; exact .nil _ _ _
    · obtain ⟨x, off, rfl, _⟩ := hr.open h0
      exact hr.keepS hu1 (by have := hne x off rfl; omega)
  have hcell := hx1.hd
  go_wp2_with (refine wpList_copy_ints rfl (.tmp 12) (.tmp 13) 99 99 rfl 63 Try.underlying99 (by kernel_rfl) .u64 b1 n c1 _ rfl hx1.own ay n cy g rfl hr1 ?_; intro w2 h1 h2 h3 hu2)
  go_ret
  have hX : NatAt w2 p b1 c1 n (ofD W64 g n) := hx1.written (ofD_lt W64_pos hg) (h1.congr (fun i hi => by rw [if_pos hi, dg_ofD W64_pos hg i hi])) h2 h3 hu2
  exact ⟨rfl, b1, c1, hX, hb1, hu1.then hu2 (fun i hi h => by
    subst h
    rcases hb1 with h | h
    · exact .inr h
    · omega)⟩

/-- Since w only the first n cells of block b have been written; they are f 0, f 1, .. -/
structure Wrote (w wr : World) (b n : Nat) (f : Nat → Nat) : Prop where
  own : Own .u64 wr b n f
  rest : ∀ i, n ≤ i → wr.cell? ⟨b, i, none⟩ = w.cell? ⟨b, i, none⟩
  froz : ∀ x, wr.frozen? x = w.frozen? x
  upd : Upd (fun k => k = b) w wr
theorem Wrote.start {w : World} {b n : Nat} {f : Nat → Nat} (h : Own .u64 w b n f) : Wrote w w b n f := ⟨h, fun _ _ => rfl, fun _ => rfl, .refl _ _⟩
theorem Wrote.congr {w wr : World} {b n : Nat} {f g : Nat → Nat} (h : Wrote w wr b n f) (e : ∀ i, i < n → f i = g i) : Wrote w wr b n g := ⟨h.own.congr e, h.rest, h.froz, h.upd⟩
theorem Wrote.drew {w wr : World} {b n : Nat} {f : Nat → Nat} (h : Wrote w wr b n f) : Wrote w wr.drew b n f := ⟨h.own.drew, h.rest, h.froz, h.upd.drew⟩
theorem Wrote.drewN {w wr : World} {b n : Nat} {f : Nat → Nat} (h : Wrote w wr b n f) (k : Nat) : Wrote w (wr.drewN k) b n f := ⟨h.own.drewN k, h.rest, h.froz, h.upd.drewN k⟩
theorem Wrote.set {w wr : World} {b n : Nat} {f : Nat → Nat} (h : Wrote w wr b n f) {i : Nat} (hi : i < n) (v : Nat) {z : Int} (hz : z = v) :
    Wrote w (wr.setCell ⟨b, i, none⟩ (.int .u64 z)) b n (fun j => if j = i then v else f j) := by
  subst hz
  refine ⟨h.own.set hi v, fun j hj => ?_, fun x => by rw [World.frozen?_setCell]; exact h.froz x, h.upd.setCell _ _ (fun _ => rfl)⟩
  rw [World.cell?_setCell_other _ _ _ _ (by intro e; cases e; omega)]
  exact h.rest j hj
theorem Wrote.limb {w wr : World} {b n : Nat} {f : Nat → Nat} (h : Wrote w wr b n f) {j : Nat} (hj : j < n) (hf : f j < 18446744073709551616) :
    ∃ d, wr.cell? ⟨b, j, none⟩ = some (.int .u64 (d : Nat)) ∧ wr.frozen? ⟨b, j, none⟩ = false ∧ d < 18446744073709551616 ∧ Hid (d = f j) :=
  ⟨_, h.own.cell j hj, h.own.free j hj, hf, rfl⟩
theorem NatAt.wrote {w w' : World} {p b c n X Y : Nat} (hx : NatAt w p b c n X) (h : Wrote w w' b n (dg W64 Y)) (hY : Y < W64 ^ n) : NatAt w' p b c n Y :=
  hx.written hY h.own h.rest h.froz h.upd
theorem NatAt.wrote_hd {w w' : World} {p b c n X : Nat} {f : Nat → Nat} (hx : NatAt w p b c n X) (h : Wrote w w' b n f) : w'.cell? ⟨p, 0, none⟩ = some (.slice (some ⟨b, 0, none⟩) n c) :=
  h.upd.cell (p := ⟨p, 0, none⟩) hx.ne hx.hd
end Go.Proofs.Ytpojonfopoobpaa

namespace Go.Proofs.Ytpojonfopoobpaa
open Go.RowKit

set_option maxRecDepth 100000 in
set_option maxHeartbeats 400000 in
theorem words_any (a : Option Addr) (n c : Nat) (f : Nat → Nat) (w : World) (hn : n ≤ 100000) (hf : ∀ i, i < n → f i < 256) (hs : Sl .u8 w a n c f) :
    Calls Try.prog 112 #[.slice a n c] w fun e w' => ∃ b, e = .returned (.slice (some ⟨b, 0, none⟩) ((nb (be f n) + 7) / 8) ((nb (be f n) + 7) / 8)) ∧ Own .u64 w' b ((nb (be f n) + 7) / 8) (dg W64 (be f n)) ∧ w.heap.size ≤ b ∧ Upd0 w w' := by
  have hm : nb (be f n) ≤ 100000 := by
    have := (nb_le_iff n (be f n)).2 (be_lt hf)
    omega
  have HL : Hid (be f n < 256 ^ nb (be f n)) := lt_pow_nb _
  have hcall := itrimmed_any a n c f w (by omega) hf hs
  clear hs hf
  generalize be f n = N at *
  generalize nb N = m at *
  have hcall := Lib.hid hcall
  go_enter Try.func112, Try.ntmps112
  go_wp2_with fail
  refine hcall.out.mono ?_
  rintro e w1 ⟨a1, c1, rfl, hs1, hu1⟩
  have hmk := make_uint ((m + 7) / 8) ((m + 7) / 8) (Nat.le_refl _) (by omega)
  rw [show (((m + 7) / 8 : Nat) : Int) = ((m : Int) + 7) / 8 from by omega] at hmk
  have HB : Hid (∀ i, i < m → dg 256 N (m - 1 - (m - 1 - i)) = dg 256 N i) := fun i hi => by congr 1; omega
  go_wp2
  go_loopw [14] (fun i wr => ∃ k : Nat, k ≤ m ∧ i = .int .i64 k ∧ Own .u64 wr w1.heap.size ((m + 7) / 8) (dg W64 (N % 256 ^ k)) ∧ Upd0 w1 wr) (fun i _ => m - (intOf i).toNat)
  case atStart => exact ⟨0, Nat.zero_le _, rfl, (Own.made .u64 w1 ((m + 7) / 8) _).congr (fun j hj => by rw [Nat.pow_zero, Nat.mod_one, dg_of_lt (Nat.pow_pos W64_pos)]), (Upd.refl _ _).alloc _⟩
  case round =>
    obtain ⟨k, hk, rfl, hown, hu⟩ := hrel
    clear hmk
    by_cases hlt : k < m
    · obtain ⟨b, off, d, rfl, hcell, hd, HD⟩ := byte_cell (hs1.keep hu).rd (fun i _ => dg_lt (by omega) _ _) (show m - 1 - k < m by omega)
      have HD : Hid (d = dg 256 N k) := by show _ = _; rw [HD.out, HB.out k hlt]
      have hcell2 := hown.cell (k / 8) (by omega)
      have hfree2 := hown.free (k / 8) (by omega)
      obtain ⟨o, HO⟩ : ∃ o, Hid (o = dg W64 (N % 256 ^ k) (k / 8)) := ⟨_, rfl⟩
      have ho2 : o < 18446744073709551616 := by rw [HO.out]; exact limb_lt _ _
      rw [← HO.out] at hcell2
      have i1 : (k : Int) / 8 < ((m : Int) + 7) / 8 := by omega
      have i2 : (0 : Int) ≤ (k : Int) / 8 := by omega
      have i3 : ((k : Int) / 8).toNat = k / 8 := by omega
      have i4 : (0 : Int) ≤ (m : Int) - 1 - (k : Int) := by omega
      have i4' : (k : Int) ≤ (m : Int) - 1 := by omega
      have i5 : (m : Int) - 1 - (k : Int) < (m : Int) := by omega
      have i6 : ((m : Int) - 1 - (k : Int)).toNat = m - 1 - k := by omega
      have e1 := w64 ((k : Int) / 8) (by omega) (by omega)
      have e2 := w64 ((m : Int) - 1) (by omega) (by omega)
      have e3 := w64 ((m : Int) - 1 - (k : Int)) (by omega) (by omega)
      have e4 := w64 (8 * ((k : Int) % 8)) (by omega) (by omega)
      have e5 := IntWalk.u64_in (d : Int) (by omega)
      have e6 := IntWalk.rem_in (k : Int) 8 (by omega)
      have e7 : (8 * ((k : Int) % 8)) = ((8 * (k % 8) : Nat) : Int) := by omega
      clear e7
      go_wp2_with fail
      go_still_tail 20, (by kernel_rfl)
      change wpList _ _ _ _ _ wr.drew
      go_wp2
      go_roundw
      case rel => exact ⟨k + 1, by omega, by go_num, by
          have h := (hown.set (i := k / 8) (by omega) (orW o (shlW d (8 * (k % 8))))).drew
          rw [← bits_or, ← wrap_shl] at h
          refine h.congr fun j hj => ?_
          rw [← word_next N k j, ← HD.out, ← HO.out], (hu.setCell _ _ (fun h => by simp at h)).drew⟩
      case measure => simp [intOf]; omega
    · obtain rfl : k = m := by omega
      go_wp2
      go_ret
      exact ⟨_, rfl, hown.congr (fun j hj => by rw [Nat.mod_eq_of_lt HL.out]), hu1.size, hu1.trans hu⟩

/-- A new number of no modulus is returned. -/
def RetFree (w : World) (N : Nat) (e : Ending) (w' : World) : Prop :=
  ∃ p b c, e = .returned (.pointer (some ⟨p, 0, none⟩)) ∧ NatAt w' p b c ((nb N + 7) / 8) N ∧ w.heap.size ≤ p ∧ w.heap.size ≤ b ∧ Upd0 w w'

theorem lt_limbs (N : Nat) : N < W64 ^ ((nb N + 7) / 8) := by
  refine Nat.lt_of_lt_of_le (lt_pow_nb N) ?_
  rw [powW, pow8]
  exact Nat.pow_le_pow_right (by omega) (by omega)

set_option maxHeartbeats 400000 in
theorem free_any (a : Option Addr) (n c : Nat) (f : Nat → Nat) (w : World) (hn : n ≤ 100000) (hf : ∀ i, i < n → f i < 256) (hs : Sl .u8 w a n c f) :
    Calls Try.prog 69 #[.slice a n c] w (RetFree w (be f n)) := by
  have hm : (nb (be f n) + 7) / 8 ≤ 65536 := by
    have := (nb_le_iff n (be f n)).2 (be_lt hf)
    omega
  go_enter Try.func69, Try.ntmps69
  go_wp2_with fail
  refine (newNat_any w).mono ?_
  rintro e w1 ⟨rfl, hx1, hu1, hz1⟩
  go_wp2_with fail
  refine (words_any a n c f w1 hn hf (hs.keep hu1)).mono ?_
  rintro e w2 ⟨b2, rfl, hown2, hb2, hu2⟩
  have hx2 := hx1.keep0 hu2
  go_wp2_with fail
  refine (setBits_any _ _ _ _ _ _ _ _ _ w2 hx2 hm hown2.rd (fun i _ => dg_lt W64_pos _ _) (fun x off h => by cases h; omega)).mono ?_
  rintro e w3 ⟨rfl, b3, c3, hx3, hb3, hu3⟩
  go_wp2_with fail
  go_ret
  rw [ofD_dg_of_lt (lt_limbs _)] at hx3
  have hz2 := hu2.size
  exact ⟨_, b3, c3, rfl, hx3, by omega, by rcases hb3 with h | h <;> omega, (hu1.trans hu2).then hu3 (fun i hi h => by omega)⟩

/-- A limb that is read, behind a name. -/
theorem NatAt.limb {w : World} {p b c n X j : Nat} (h : NatAt w p b c n X) (hj : j < n) :
    ∃ d, w.cell? ⟨b, j, none⟩ = some (.int .u64 (d : Nat)) ∧ d < 18446744073709551616 ∧ Hid (d = dg W64 X j) :=
  ⟨_, h.own.cell j hj, limb_lt _ _, rfl⟩

set_option maxHeartbeats 400000 in
theorem bitLen_any (n : Nat) (w : World) (hn : n < 18446744073709551616) :
    Calls Try.prog 114 #[.int .u64 n] w fun e w' => e = .returned (.int .i64 (blen n)) ∧ w = w' := by
  have hb : blen n ≤ 64 := (blen_le_iff 64 n).2 hn
  go_enter Try.func114, Try.ntmps114
  go_wp2
  go_loop [0, 3] (fun x i => ∃ m k : Nat, m ≤ n ∧ x = .int .u64 m ∧ i = .int .i64 k ∧ Hid (k + blen m = blen n)) (fun x _ => (intOf x).toNat)
  case atStart => exact ⟨n, 0, Nat.le_refl _, rfl, rfl, by show 0 + _ = _; omega⟩
  case round =>
    obtain ⟨m, k, hm, rfl, rfl, HK⟩ := hrel
    have hk : k ≤ 64 := by have := HK.out; omega
    by_cases h0 : m = 0
    · subst h0
      go_wp2
      go_ret
      exact ⟨ret_nat (by have := HK.out; rw [blen_zero] at this; omega), rfl⟩
    · have h0' : ((m : Int) != 0) = true := by rw [bne_iff_ne]; omega
      have HK2 : Hid (k + 1 + blen (m / 2) = blen n) := by show _ = _; rw [← HK.out, blen_half m h0]; omega
      clear hb
      go_wp2
      go_round
      case rel => exact ⟨m / 2, k + 1, by omega, by go_num, by go_num, HK2⟩
      case measure => simp [intOf]; omega

set_option maxRecDepth 100000 in
set_option maxHeartbeats 400000 in
theorem bitLenVT_any (p b c n X : Nat) (w : World) (hx : NatAt w p b c n X) :
    Calls Try.prog 72 #[.pointer (some ⟨p, 0, none⟩)] w fun e w' => e = .returned (.int .i64 (blen X)) ∧ w = w' := by
  have hcell := hx.hd
  have hle := hx.le
  have hsm := hx.sm
  have HX : Hid (X < W64 ^ n) := hx.lt
  go_enter Try.func72, Try.ntmps72
  go_wp2
  go_loop [5] (fun i => ∃ k : Nat, k ≤ n ∧ i = .int .i64 ((k : Int) - 1) ∧ Hid (X < W64 ^ k)) (fun i => (intOf i + 1).toNat)
  case atStart => exact ⟨n, Nat.le_refl _, rfl, HX⟩
  case round =>
    obtain ⟨k, hk, rfl, HK⟩ := hrel
    by_cases h0 : k = 0
    · subst h0
      have hX0 : Hid (X = 0) := by have := HK.out; show X = 0; simpa using this
      go_wp2
      go_ret
      exact ⟨ret_int (by rw [hX0.out]; rfl), rfl⟩
    · obtain ⟨j, rfl⟩ : ∃ j, k = j + 1 := ⟨k - 1, by omega⟩
      obtain ⟨d, hd, hdl, HD⟩ := hx.limb (show j < n by omega)
      by_cases hz : d = 0
      · subst hz
        go_wp2
        go_round
        case rel => exact ⟨j, by omega, rfl, lt_of_no_topW HK.out HD.out.symm⟩
        case measure => simp [intOf]
      · have hz' : ((d : Int) != 0) = true := by rw [bne_iff_ne]; omega
        have HB : Hid (blen X = 64 * j + blen d) := by show _ = _; rw [HD.out]; exact blen_topW HK.out (by rw [← HD.out]; exact hz)
        have hb64 : blen d ≤ 64 := (blen_le_iff 64 d).2 hdl
        go_wp2_with (go_at_call 114; refine (bitLen_any _ _ hdl).mono ?_; rintro e w' ⟨rfl, rfl⟩)
        go_ret
        exact ⟨ret_int (by rw [HB.out]; go_num), rfl⟩
end Go.Proofs.Ytpojonfopoobpaa

namespace Go.Proofs.Ytpojonfopoobpaa
open Go.RowKit

set_option maxRecDepth 100000 in
set_option maxHeartbeats 1000000 in
theorem rshift1_any (p b c n X cy : Nat) (w : World) (hx : NatAt w p b c n X) (hcy : cy ≤ 1) :
    Calls Try.prog 137 #[.pointer (some ⟨p, 0, none⟩), .int .u64 cy] w fun e w' => e = .returned (.tuple #[]) ∧ NatAt w' p b c n ((X + cy * W64 ^ n) / 2) ∧ Upd (fun k => k = b) w w' := by
  have hcell := hx.hd
  have hle := hx.le
  have hsm := hx.sm
  go_enter Try.func137, Try.ntmps137
  go_wp2
  go_loopw [19] (fun i wr => ∃ k : Nat, k ≤ n ∧ i = .int .i64 k ∧ Wrote w wr b n (fun j => if j < k then dg W64 ((X + cy * W64 ^ n) / 2) j else dg W64 X j)) (fun i _ => n - (intOf i).toNat)
  case atStart => exact ⟨0, Nat.zero_le _, rfl, .start (hx.own.congr (fun j _ => by rw [if_neg (Nat.not_lt_zero j)]))⟩
  case round =>
    obtain ⟨k, hk, rfl, hw⟩ := hrel
    by_cases hlt : k < n
    · obtain ⟨d, hc1, hf1, hd, HD⟩ := hw.limb hlt (by rw [if_neg (Nat.lt_irrefl k)]; exact limb_lt _ _)
      have HD : Hid (d = dg W64 X k) := by rw [if_neg (Nat.lt_irrefl k)] at HD; exact HD
      have hw1 := hw.set hlt (d / 2) (z := (d : Int) / 2) (by omega)
      have hf2 := hw1.own.free k hlt
      have hc3 := hw1.own.cell k hlt
      rw [if_pos rfl, show ((d / 2 : Nat) : Int) = (d : Int) / 2 from by omega] at hc3
      by_cases hlt2 : k + 1 < n
      · obtain ⟨d', hc2, _, hd', HD'⟩ := hw1.limb hlt2 (by rw [if_neg (by omega), if_neg (by omega)]; exact limb_lt _ _)
        have HD' : Hid (d' = dg W64 X (k + 1)) := by rw [if_neg (by omega), if_neg (by omega)] at HD'; exact HD'
        have HV : Hid (d / 2 + d' % 2 * 9223372036854775808 = dg W64 ((X + cy * W64 ^ n) / 2) k) := by
          show _ = _
          rw [dg_half, dg_carry cy hx.lt hcy, dg_carry cy hx.lt hcy, if_pos hlt, if_pos hlt2, HD.out, HD'.out]
        have i1 : (k : Int) < (n : Int) := by omega
        have i2 : (0 : Int) ≤ (k : Int) := by omega
        have i3 : ((k : Int)).toNat = k := by omega
        have i4 : (k : Int) + 1 < (n : Int) := by omega
        have i5 : (0 : Int) ≤ (k : Int) + 1 := by omega
        have i6 : ((k : Int) + 1).toNat = k + 1 := by omega
        have e1 := w64 ((k : Int) + 1) (by omega) (by omega)
        go_wp2_with fail
        generalize wr.setCell ⟨b, k, none⟩ (.int .u64 ((d : Int) / 2)) = wq at *
        go_still_tail 12, (by kernel_rfl)
        change wpList _ _ _ _ _ wq.drew
        go_wp2
        go_roundw
        case rel => exact ⟨k + 1, by omega, by go_num, by
          refine (hw1.drew.set hlt _ (or_half d d' hd)).congr fun j hj => ?_
          rw [HV.out]
          by_cases e : j = k
          · subst e; rw [if_pos rfl, if_pos (by omega)]
          · rw [if_neg e, if_neg e]
            by_cases e2 : j < k
            · rw [if_pos e2, if_pos (by omega)]
            · rw [if_neg e2, if_neg (by omega)]⟩
        case measure => simp [intOf]; omega
      · have HV : Hid (d / 2 + cy % 2 * 9223372036854775808 = dg W64 ((X + cy * W64 ^ n) / 2) k) := by
          show _ = _
          rw [dg_half, dg_carry cy hx.lt hcy, dg_carry cy hx.lt hcy, if_pos hlt, if_neg hlt2, if_pos (by omega), HD.out]
        go_wp2
        go_roundw
        case rel => exact ⟨k + 1, by omega, by go_num, by
          have hoh := or_half d cy hd
          rw [IntWalk.u64_in ((cy : Int) * 9223372036854775808) (by omega)] at hoh
          refine (hw1.set hlt _ hoh).congr fun j hj => ?_
          rw [HV.out]
          by_cases e : j = k
          · subst e; rw [if_pos rfl, if_pos (by omega)]
          · rw [if_neg e, if_neg e]
            by_cases e2 : j < k
            · rw [if_pos e2, if_pos (by omega)]
            · rw [if_neg e2, if_neg (by omega)]⟩
        case measure => simp [intOf]; omega
    · obtain rfl : k = n := by omega
      have hY : (X + cy * W64 ^ k) / 2 < W64 ^ k := by
        have h1 : cy * W64 ^ k ≤ 1 * W64 ^ k := Nat.mul_le_mul_right _ hcy
        have := hx.lt
        omega
      have hX : NatAt wr p b c k ((X + cy * W64 ^ k) / 2) := hx.wrote (hw.congr fun j hj => by rw [if_pos hj]) hY
      have hu := hw.upd
      clear hw hY
      go_wp2
      go_end0
      exact ⟨rfl, hX, hu⟩


set_option maxHeartbeats 400000 in
theorem natBits_any (p b c n X : Nat) (w : World) (hx : NatAt w p b c n X) :
    Calls Try.prog 119 #[.pointer (some ⟨p, 0, none⟩)] w fun e w' => e = .returned (.slice (some ⟨b, 0, none⟩) n c) ∧ w = w' := by
  have hcell := hx.hd
  go_enter Try.func119, Try.ntmps119
  go_wp2
  go_ret
  exact ⟨rfl, rfl⟩

theorem byte_of_limb (X i j : Nat) (hj : j < 8) : dg W64 X i / 2 ^ (8 * j) % 256 = dg 256 X (8 * i + j) := by
  unfold dg
  rw [← pow8, Nat.pow_add, Nat.pow_mul, ← Nat.div_div_eq_div_mul]
  rw [show (256 : Nat) ^ 8 = W64 from rfl]
  generalize X / W64 ^ i = z
  have : W64 = 256 ^ j * 256 ^ (8 - j) := by
    rw [← Nat.pow_add, show j + (8 - j) = 8 by omega]; rfl
  rw [this, Nat.mod_mul_right_div_self]
  obtain ⟨t, ht⟩ : ∃ t, 8 - j = t + 1 := ⟨7 - j, by omega⟩
  rw [ht, Nat.pow_succ, Nat.mul_comm (256 ^ t) 256, Nat.mod_mul_right_mod]

set_option maxRecDepth 100000 in
set_option maxHeartbeats 1000000 in
theorem told_any (p b c n X : Nat) (w : World) (hx : NatAt w p b c n X) :
    Calls Try.prog 80 #[.pointer (some ⟨p, 0, none⟩)] w (RetBytes w (nb X) (fun i => dg 256 X (nb X - 1 - i))) := by
  have hle := hx.le
  have hsm := hx.sm
  go_enter Try.func80, Try.ntmps80
  go_wp2_with fail
  refine (natBits_any p b c n X w hx).mono ?_
  rintro e w1 ⟨rfl, rfl⟩
  go_wp2_with fail
  go_loopw [4, 5] (fun v i wr => ∃ (k : Nat) (a' : Option Addr) (c' : Nat), k ≤ n ∧ i = .int .i64 ((k : Int) - 1) ∧ v = .slice a' (8 * (n - k)) c' ∧ Grow .u8 5 wr w.heap.size a' c' (8 * (n - k)) (fun t => dg 256 X (8 * n - 1 - t)) ∧ Upd0 w wr) (fun _ i _ => (intOf i + 1).toNat)
  case atStart => exact ⟨n, none, 0, Nat.le_refl _, rfl, by simp, by simp only [Nat.sub_self, Nat.mul_zero]; exact Grow.nil _ _ _ _ _, .refl _ _⟩
  case round =>
    obtain ⟨k, a', c', hk, hi, rfl, hg, hu⟩ := hrel
    by_cases h0 : k = 0
    · subst h0
      subst hi
      have HS : Sl .u8 wr a' (8 * n) c' (fun t => dg 256 X (8 * n - 1 - t)) := hg.sl
      have hcall := itrimmed_any a' (8 * n) c' _ wr (by omega) (fun i _ => dg_lt (by omega) _ _) HS
      have HX : X < 256 ^ (8 * n) := by
        have := hx.lt
        rw [powW] at this
        rw [pow8, ← Nat.mul_assoc]; exact this
      rw [be_of_dg HX] at hcall
      have hcall := Lib.hid hcall
      rw [Nat.sub_zero]
      go_wp2_with fail
      refine hcall.out.mono ?_
      rintro e w2 ⟨a2, c2, rfl, hs2, hu2⟩
      go_wp2_with fail
      go_ret
      exact ⟨a2, c2, rfl, hs2, hu.trans hu2⟩
    · obtain ⟨j, rfl⟩ : ∃ j, k = j + 1 := ⟨k - 1, by omega⟩
      replace hi := hi.trans (show Value.int .i64 (((j + 1 : Nat) : Int) - 1) = .int .i64 (j : Int) by congr 1; omega)
      subst hi
      obtain ⟨C, hC⟩ : ∃ C, C = 8 * (n - (j + 1)) := ⟨_, rfl⟩
      rw [← hC] at hg ⊢
      have hC' : C + 8 * (j + 1) = 8 * n := by omega
      have HC := Lib.hid hC
      clear hC
      obtain ⟨wo, rfl⟩ : ∃ wo : World, wo = wr := ⟨_, rfl⟩
      go_wp2_with fail
      go_loopw [4, 6] (fun v i wr => ∃ (r : Nat) (a' : Option Addr) (c' : Nat), r ≤ 8 ∧ i = .int .i64 (8 * (r : Int) - 8) ∧ v = .slice a' (C + (8 - r)) c' ∧ Grow .u8 5 wr w.heap.size a' c' (C + (8 - r)) (fun t => dg 256 X (8 * n - 1 - t)) ∧ Upd0 w wr) (fun _ i _ => (intOf i + 8).toNat)
      case atStart => exact ⟨8, a', c', Nat.le_refl _, rfl, rfl, hg, hu⟩
      case round =>
        clear hg hu
        obtain ⟨r, a', c', hr, hi, rfl, hg, hu⟩ := hrel
        by_cases h0 : r = 0
        · subst h0
          subst hi
          go_wp2_with fail
          go_roundw
          case rel => exact ⟨j, a', c', by omega, rfl, by congr 1; omega, by rw [show 8 * (n - j) = C + (8 - 0) by omega]; exact hg, hu⟩
          case measure => simp [intOf]
        · obtain ⟨s, rfl⟩ : ∃ s, r = s + 1 := ⟨r - 1, by omega⟩
          replace hi := hi.trans (show Value.int .i64 (8 * ((s + 1 : Nat) : Int) - 8) = .int .i64 (8 * (s : Int)) by congr 1; omega)
          subst hi
          obtain ⟨d, hd1, hd, HD⟩ := (hx.keep0 hu).limb (show j < n by omega)
          rw [show 8 - (s + 1) = 7 - s from by omega] at hg ⊢
          have hz := hu.size
          go_wp2_with (at_builtin; refine wpList_append_ints rfl (.tmp 20) (.tmp 28) 22 rfl w.heap.size 5 .u8 1 Try.underlying22 info_u8 a' c' (C + (7 - s)) _ rfl (by exact hg.keep0 ((Upd.refl _ _).alloc _)) ⟨wr.heap.size, 0, none⟩ 1 1 (fun _ => d / 2 ^ (8 * s) % 256) rfl (by exact Rd.one (by simp)) (by omega) (by omega) (by simp; omega) ?_; intro a2 c2 w2 hg2 hu2)
          go_roundw
          case rel => exact ⟨s, a2, c2, by omega, rfl, by congr 1; omega, by
            rw [show C + (8 - s) = C + (7 - s) + 1 by omega]
            refine hg2.congr fun t ht => ?_
            by_cases e : t < C + (7 - s)
            · rw [if_pos e]
            · rw [if_neg e, HD.out, byte_of_limb X j s (by omega)]
              congr 1; omega, hu.then (T := fun b => w.heap.size ≤ b) (((Upd.refl _ _).alloc _).then hu2 (fun i _ hi => (hg.block i hi).1)) (fun i h1 h2 => by omega)⟩
          case measure => simp [intOf]; omega
end Go.Proofs.Ytpojonfopoobpaa

namespace Go.Proofs.Ytpojonfopoobpaa
open Go.RowKit

set_option maxRecDepth 100000 in
set_option maxHeartbeats 1000000 in
theorem shiftRightVT_big (p b c n X N : Nat) (w : World) (hx : NatAt w p b c n X) (hN : N < 18446744073709551616) (hL : n ≤ N / 64) :
    Calls Try.prog 82 #[.pointer (some ⟨p, 0, none⟩), .int .u64 N] w fun e w' => e = .returned (.pointer (some ⟨p, 0, none⟩)) ∧ NatAt w' p b c n (X / 2 ^ N) ∧ Upd (fun k => k = b) w w' := by
  have hcell := hx.hd
  have hle := hx.le
  have hsm := hx.sm
  have HX : Hid (X / 2 ^ N = 0) := by
    show _ = _
    refine Nat.div_eq_of_lt (Nat.lt_of_lt_of_le hx.lt ?_)
    rw [powW]
    exact Nat.pow_le_pow_right (by omega) (by omega)
  obtain ⟨s, hs⟩ : ∃ s, s = N % 64 := ⟨_, rfl⟩
  obtain ⟨L, hL2⟩ : ∃ L, L = N / 64 := ⟨_, rfl⟩
  have e1 : (N : Int) % 64 = (s : Int) := by omega
  have e2 : (N : Int) / 64 = (L : Int) := by omega
  have b1 : s < 64 := by omega
  have b2 : n ≤ L := by omega
  have b3 : L ≤ 288230376151711744 := by omega
  clear hs hL2 hL
  go_enter Try.func82, Try.ntmps82
  go_wp2
  go_loopw [36] (fun i wr => ∃ k : Nat, k ≤ n ∧ i = .int .i64 k ∧ Wrote w wr b n (fun j => if j < k then 0 else dg W64 X j)) (fun i _ => n - (intOf i).toNat)
  case atStart => exact ⟨0, Nat.zero_le _, rfl, .start (hx.own.congr (fun j _ => by rw [if_neg (Nat.not_lt_zero j)]))⟩
  case round =>
    obtain ⟨k, hk, rfl, hw⟩ := hrel
    clear e1 e2
    by_cases hlt : k < n
    · have hc1 := hw.own.cell k hlt
      have hf1 := hw.own.free k hlt
      rw [if_neg (Nat.lt_irrefl k)] at hc1
      go_wp2
      go_roundw
      case rel => exact ⟨k + 1, by omega, by go_num, (hw.set hlt 0 (z := 0) (by omega)).congr fun j hj => by
        by_cases e : j = k
        · subst e; rw [if_pos rfl, if_pos (by omega)]
        · rw [if_neg e]
          by_cases e2 : j < k
          · rw [if_pos e2, if_pos (by omega)]
          · rw [if_neg e2, if_neg (by omega)]⟩
      case measure => simp [intOf]; omega
    · obtain rfl : k = n := by omega
      have hX : NatAt wr p b c k (X / 2 ^ N) := hx.wrote (hw.congr fun j hj => by rw [if_pos hj, HX.out, dg_of_lt (Nat.pow_pos W64_pos)]) (by rw [HX.out]; exact Nat.pow_pos W64_pos)
      have hu := hw.upd
      clear hw
      go_wp2
      go_ret
      exact ⟨rfl, hX, hu⟩

set_option maxRecDepth 100000 in
set_option maxHeartbeats 1000000 in
theorem shiftRightVT_low (p b c n X N : Nat) (w : World) (hx : NatAt w p b c n X) (hN : N < 18446744073709551616) (hL : N / 64 < n) :
    Calls Try.prog 82 #[.pointer (some ⟨p, 0, none⟩), .int .u64 N] w fun e w' => e = .returned (.pointer (some ⟨p, 0, none⟩)) ∧ NatAt w' p b c n (X / 2 ^ N) ∧ Upd (fun k => k = b) w w' := by
  have hcell := hx.hd
  have hle := hx.le
  have hsm := hx.sm
  obtain ⟨s, hs⟩ : ∃ s, s = N % 64 := ⟨_, rfl⟩
  obtain ⟨L, hL2⟩ : ∃ L, L = N / 64 := ⟨_, rfl⟩
  have HN : Hid (N = 64 * L + s) := by show _ = _; omega
  have e1 : (N : Int) % 64 = (s : Int) := by omega
  have e2 : (N : Int) / 64 = (L : Int) := by omega
  have b1 : s < 64 := by omega
  have b2 : L < n := by omega
  have b3 : ¬ c = L := by omega
  clear hs hL2 hL
  go_enter Try.func82, Try.ntmps82
  go_wp2
  go_loopw [36] (fun i wr => ∃ k : Nat, k ≤ n ∧ i = .int .i64 k ∧ Wrote w wr b n (fun j => if j < k then dg W64 (X / 2 ^ N) j else dg W64 X j)) (fun i _ => n - (intOf i).toNat)
  case atStart => exact ⟨0, Nat.zero_le _, rfl, .start (hx.own.congr (fun j _ => by rw [if_neg (Nat.not_lt_zero j)]))⟩
  case round =>
    obtain ⟨k, hk, rfl, hw⟩ := hrel
    clear e1 e2
    by_cases hlt : k < n
    · obtain ⟨d0, hc1, hf1, _, _⟩ := hw.limb hlt (by rw [if_neg (Nat.lt_irrefl k)]; exact limb_lt _ _)
      by_cases h1 : k + L < n
      · obtain ⟨d, hc2, _, hd, HD⟩ := hw.limb h1 (by rw [if_neg (by omega)]; exact limb_lt _ _)
        have HD : Hid (d = dg W64 X (k + L)) := by rw [if_neg (by omega)] at HD; exact HD
        rw [Nat.add_comm k L] at hc2
        have hz1 : ((d : Int) / 2 ^ s) = ((d / 2 ^ s : Nat) : Int) := by simp
        have hw1 := hw.set hlt (d / 2 ^ s) hz1
        have HZ := Lib.hid hz1
        clear hz1
        by_cases h2 : k + 1 + L < n
        · obtain ⟨d', hc3, _, hd', HD'⟩ := hw1.limb h2 (by rw [if_neg (by omega), if_neg (by omega)]; exact limb_lt _ _)
          have HD' : Hid (d' = dg W64 X (k + 1 + L)) := by rw [if_neg (by omega), if_neg (by omega)] at HD'; exact HD'
          rw [Nat.add_comm (k + 1) L] at hc3
          have HV : Hid (d / 2 ^ s + d' % 2 ^ s * 2 ^ (64 - s) = dg W64 (X / 2 ^ N) k) := by
            show _ = _
            rw [HN.out, dg_shift X L s k b1, HD.out, HD'.out, Nat.add_comm k L, Nat.add_comm (k + 1) L]
          have hc4 := hw1.own.cell k hlt
          have hf4 := hw1.own.free k hlt
          rw [if_pos rfl, ← HZ.out] at hc4
          have i1 : (k : Int) < (n : Int) := by omega
          have i2 : (0 : Int) ≤ (k : Int) := by omega
          have i3 : ((k : Int)).toNat = k := by omega
          have i4 : (k : Int) + 1 < ((n - L : Nat) : Int) := by omega
          have i4' : k + 1 < n - L := by omega
          have i5 : (0 : Int) ≤ (k : Int) + 1 := by omega
          have i6 : ((k : Int) + 1).toNat = k + 1 := by omega
          have i7 : (0 : Int) ≤ 64 - (s : Int) := by omega
          have i7' : (s : Int) ≤ 64 := by omega
          have i8 : (64 - (s : Int)).toNat = 64 - s := by omega
          have e3 := w64 ((k : Int) + 1) (by omega) (by omega)
          have e4 := w64 (64 - (s : Int)) (by omega) (by omega)
          go_wp2_with fail
          generalize wr.setCell ⟨b, k, none⟩ (.int .u64 ((d : Int) / 2 ^ s)) = wq at *
          go_still_tail 14, (by kernel_rfl)
          change wpList _ _ _ _ _ wq.drew
          go_wp2
          go_roundw
          case rel => exact ⟨k + 1, by omega, by go_num, by
            refine (hw1.drew.set hlt _ (or_shr d d' s hd b1)).congr fun j hj => ?_
            rw [HV.out]
            by_cases e : j = k
            · subst e; rw [if_pos rfl, if_pos (by omega)]
            · rw [if_neg e, if_neg e]
              by_cases e2 : j < k
              · rw [if_pos e2, if_pos (by omega)]
              · rw [if_neg e2, if_neg (by omega)]⟩
          case measure => simp [intOf]; omega
        · have HV : Hid (d / 2 ^ s = dg W64 (X / 2 ^ N) k) := by
            show _ = _
            rw [HN.out, dg_shift X L s k b1, HD.out, Nat.add_comm k L, dg_of_lt' (i := L + (k + 1)) W64_pos hx.lt (by omega), Nat.zero_mod, Nat.zero_mul, Nat.add_zero]
          go_wp2
          go_roundw
          case rel => exact ⟨k + 1, by omega, by go_num, by
            refine hw1.congr fun j hj => ?_
            rw [HV.out]
            by_cases e : j = k
            · subst e; rw [if_pos rfl, if_pos (by omega)]
            · rw [if_neg e]
              by_cases e2 : j < k
              · rw [if_pos e2, if_pos (by omega)]
              · rw [if_neg e2, if_neg (by omega)]⟩
          case measure => simp [intOf]; omega
      · have HV : Hid (0 = dg W64 (X / 2 ^ N) k) := by
          show _ = _
          rw [HN.out, dg_shift X L s k b1, dg_of_lt' W64_pos hx.lt (by omega), dg_of_lt' W64_pos hx.lt (by omega), Nat.zero_mod, Nat.zero_mul, Nat.zero_div]
        go_wp2
        go_roundw
        case rel => exact ⟨k + 1, by omega, by go_num, by
          refine (hw.set hlt 0 (z := 0) (by omega)).congr fun j hj => ?_
          rw [HV.out]
          by_cases e : j = k
          · subst e; rw [if_pos rfl, if_pos (by omega)]
          · rw [if_neg e]
            by_cases e2 : j < k
            · rw [if_pos e2, if_pos (by omega)]
            · rw [if_neg e2, if_neg (by omega)]⟩
        case measure => simp [intOf]; omega
    · obtain rfl : k = n := by omega
      have hX : NatAt wr p b c k (X / 2 ^ N) := hx.wrote (hw.congr fun j hj => by rw [if_pos hj]) (Nat.lt_of_le_of_lt (Nat.div_le_self _ _) hx.lt)
      have hu := hw.upd
      clear hw
      go_wp2
      go_ret
      exact ⟨rfl, hX, hu⟩

theorem shiftRightVT_any (p b c n X N : Nat) (w : World) (hx : NatAt w p b c n X) (hN : N < 18446744073709551616) :
    Calls Try.prog 82 #[.pointer (some ⟨p, 0, none⟩), .int .u64 N] w fun e w' => e = .returned (.pointer (some ⟨p, 0, none⟩)) ∧ NatAt w' p b c n (X / 2 ^ N) ∧ Upd (fun k => k = b) w w' := by
  rcases Nat.lt_or_ge (N / 64) n with h | h
  · exact shiftRightVT_low p b c n X N w hx hN h
  · exact shiftRightVT_big p b c n X N w hx hN h
end Go.Proofs.Ytpojonfopoobpaa
