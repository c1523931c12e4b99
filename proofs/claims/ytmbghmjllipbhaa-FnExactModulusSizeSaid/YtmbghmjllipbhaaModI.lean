/-
  Contracts: impl.modulus, Modulus.Size, impl.ModulusSize, spec.ModulusSize.
-/
import Derived.Test.YtmbghmjllipbhaaModN
import Derived.Test.YtmbghmjllipbhaaSpecI
namespace Go.Proofs.Ytmbghmjllipbhaa
open Go.RowKit

theorem clone_bs {a : Option Addr} {n c N : Nat} {w : World} (hn : n ≤ 1048576) (h : Bs w a n c N) : Calls Try.prog 69 #[.slice a n c] w (RetBs w n N) := by
  obtain ⟨f, h1, h2, rfl⟩ := h
  exact (clone_any a n c f w hn h2).mono fun _ _ ⟨a1, c1, h3, h4, h5⟩ => ⟨a1, c1, h3, ⟨f, h1, h4, rfl⟩, h5⟩
/-- A modulus and true are returned. -/
def RetModB (w : World) (M : Nat) (e : Ending) (w' : World) : Prop := ∃ mp, e = .returned (.tuple #[.pointer (some ⟨mp, 0, none⟩), .bool true]) ∧ ModAt w' w'.heap.size mp (nl M) M ∧ Upd0 w w'
/-- No modulus and false are returned. -/
def RetModN (w : World) (e : Ending) (w' : World) : Prop := e = .returned (.tuple #[.pointer none, .bool false]) ∧ Upd0 w w'
set_option maxRecDepth 100000 in
set_option maxHeartbeats 1000000 in
theorem iModulus_yes {a : Option Addr} {n c M : Nat} {w : World} (hn : n ≤ 100000) (h : Bs w a n c M) (hM : 1 < M) :
    Calls Try.prog 87 #[.slice a n c] w (RetModB w M) := by
  go_enter Try.func87, Try.ntmps87
  go_wp2_with fail
  with_reducible refine (clone_bs (by omega) h).mono ?_
  rintro e w1 ⟨a1, c1, rfl, h1, hu1⟩
  go_wp2_with fail
  with_reducible refine (NewModulus_yes hn h1 hM).mono ?_
  rintro e w2 ⟨mp, rfl, hmod, hu2⟩
  go_wp2_with fail
  go_quiet (fail)
  rename_i nq
  go_wp2_with fail
  go_ret2
  exact ⟨mp, rfl, hmod.keep0 ((Upd.refl _ _).drewN nq), (hu1.trans hu2).drewN nq⟩
set_option maxRecDepth 100000 in
set_option maxHeartbeats 1000000 in
theorem iModulus_no {a : Option Addr} {n c M : Nat} {w : World} (hn : n ≤ 100000) (h : Bs w a n c M) (hM : ¬ 1 < M) :
    Calls Try.prog 87 #[.slice a n c] w (RetModN w) := by
  go_enter Try.func87, Try.ntmps87
  go_wp2_with fail
  with_reducible refine (clone_bs (by omega) h).mono ?_
  rintro e w1 ⟨a1, c1, rfl, h1, hu1⟩
  go_wp2_with fail
  with_reducible refine (NewModulus_no hn h1 hM).mono ?_
  rintro e w2 ⟨t, x, rfl, hu2⟩
  go_wp2_with fail
  go_quiet (fail)
  rename_i nq
  go_wp2_with fail
  go_ret2
  exact ⟨rfl, (hu1.trans hu2).drewN nq⟩
theorem mBitLen {s mp n M : Nat} {w : World} (h : ModAt w s mp n M) : Calls Try.prog 89 #[.pointer (some ⟨mp, 0, none⟩)] w fun e w' => e = .returned (.int .i64 (blen M)) ∧ w = w' := by
  obtain ⟨q, b, c, hm, _, _⟩ := h.ex
  exact modBitLen_any mp q b c n M w hm
theorem ModAt.bl {s mp n M : Nat} {w : World} (h : ModAt w s mp n M) : blen M ≤ 1048576 := by
  have h1 := h.hn
  have h2 := h.hn2
  rw [h1] at h2
  unfold nl at h2
  omega
set_option maxHeartbeats 400000 in
theorem mSize {s mp n M : Nat} {w : World} (h : ModAt w s mp n M) : Calls Try.prog 88 #[.pointer (some ⟨mp, 0, none⟩)] w fun e w' => e = .returned (.int .i64 (nb M)) ∧ w = w' := by
  have hb := h.bl
  have H8 : Hid ((((blen M : Nat) : Int) + 7) / 8 = ((nb M : Nat) : Int)) := by show _ = _; unfold nb; omega
  have k1 := Lib.hid (mBitLen h)
  clear h
  go_enter Try.func88, Try.ntmps88
  go_wp2_with fail
  with_reducible refine k1.out.mono ?_
  rintro e w' ⟨rfl, rfl⟩
  go_wp2_with fail
  go_ret
  exact ⟨ret_int H8.out, rfl⟩
/-- Size and bits of a modulus, where it is one. -/
def RetSz (w : World) (M : Nat) (e : Ending) (w' : World) : Prop :=
  (1 < M → e = .returned (.tuple #[.int .i64 (nb M), .int .i64 (blen M), .bool true])) ∧ (¬ 1 < M → e = .returned (.tuple #[.int .i64 0, .int .i64 0, .bool false])) ∧ Upd0 w w'
set_option maxRecDepth 100000 in
set_option maxHeartbeats 1000000 in
theorem iModulusSize_yes {a : Option Addr} {n c M : Nat} {w : World} (hn : n ≤ 100000) (h : Bs w a n c M) (hM : 1 < M) :
    Calls Try.prog 36 #[.slice a n c] w fun e w' => e = .returned (.tuple #[.int .i64 (nb M), .int .i64 (blen M), .bool true]) ∧ Upd0 w w' := by
  go_enter Try.func36, Try.ntmps36
  go_wp2_with fail
  with_reducible refine (iModulus_yes hn h hM).mono ?_
  rintro e w1 ⟨mp, rfl, hmod, hu1⟩
  have k1 := Lib.hid (mSize hmod)
  have k2 := Lib.hid (mBitLen hmod)
  clear hmod
  go_wp2_with fail
  with_reducible refine k1.out.mono ?_
  rintro e w' ⟨rfl, rfl⟩
  go_wp2_with fail
  with_reducible refine k2.out.mono ?_
  rintro e w' ⟨rfl, rfl⟩
  go_wp2_with fail
  go_ret3
  exact ⟨rfl, hu1⟩
set_option maxRecDepth 100000 in
set_option maxHeartbeats 1000000 in
theorem iModulusSize_no {a : Option Addr} {n c M : Nat} {w : World} (hn : n ≤ 100000) (h : Bs w a n c M) (hM : ¬ 1 < M) :
    Calls Try.prog 36 #[.slice a n c] w fun e w' => e = .returned (.tuple #[.int .i64 0, .int .i64 0, .bool false]) ∧ Upd0 w w' := by
  go_enter Try.func36, Try.ntmps36
  go_wp2_with fail
  with_reducible refine (iModulus_no hn h hM).mono ?_
  rintro e w1 ⟨rfl, hu1⟩
  go_wp2_with fail
  go_ret3
  exact ⟨rfl, hu1⟩
set_option maxRecDepth 100000 in
set_option maxHeartbeats 1000000 in
theorem sModulusSize_yes {a : Option Addr} {n c M : Nat} {w : World} (hn : n ≤ 4000) (h : Bs w a n c M) (hM : 1 < M) :
    Calls Try.prog 37 #[.slice a n c] w fun e w' => e = .returned (.tuple #[.int .i64 (nb M), .int .i64 (blen M), .bool true]) ∧ Upd0 w w' := by
  have hd := h.nd
  have hb := h.blen
  have H8 : Hid ((((blen M : Nat) : Int) + 7) / 8 = ((nb M : Nat) : Int)) := by show _ = _; unfold nb; omega
  go_enter Try.func37, Try.ntmps37
  go_wp2_with fail
  with_reducible refine (sModulus_yes (by omega) h hM).mono ?_
  rintro e w1 ⟨a1, c1, rfl, hs1, hu1⟩
  have k1 := Lib.hid (bits_any a1 c1 M w1 (by omega) hs1.rd)
  go_wp2_with fail
  with_reducible refine k1.out.mono ?_
  rintro e w' ⟨rfl, rfl⟩
  go_wp2_with fail
  with_reducible refine k1.out.mono ?_
  rintro e w' ⟨rfl, rfl⟩
  go_wp2_with fail
  go_ret3
  exact ⟨by rw [← H8.out]; rfl, hu1⟩
set_option maxRecDepth 100000 in
set_option maxHeartbeats 1000000 in
theorem sModulusSize_no {a : Option Addr} {n c M : Nat} {w : World} (hn : n ≤ 4000) (h : Bs w a n c M) (hM : ¬ 1 < M) :
    Calls Try.prog 37 #[.slice a n c] w fun e w' => e = .returned (.tuple #[.int .i64 0, .int .i64 0, .bool false]) ∧ Upd0 w w' := by
  go_enter Try.func37, Try.ntmps37
  go_wp2_with fail
  with_reducible refine (sModulus_no (by omega) h hM).mono ?_
  rintro e w1 ⟨a1, c1, rfl, hs1, hu1⟩
  go_wp2_with fail
  go_ret3
  exact ⟨rfl, hu1⟩
end Go.Proofs.Ytmbghmjllipbhaa
