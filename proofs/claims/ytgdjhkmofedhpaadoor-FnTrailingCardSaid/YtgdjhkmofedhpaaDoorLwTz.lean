/-
  The laws FnExactTrailingZeros, FnTrailing.
-/
import Derived.Test.YtgdjhkmofedhpaaDoorTz
import Derived.Test.YtgdjhkmofedhpaaDoorApp
namespace Go.Proofs.YtgdjhkmofedhpaaDoor
open Go.RowKit

set_option maxRecDepth 100000 in
set_option maxHeartbeats 4000000 in
theorem law_FnExactTrailingZeros (ax : Option Addr) (nx cx : Nat) (fx : Nat → Nat) (w : World) (hfx : ∀ i, i < nx → fx i < 256) (hsx : Sl .u8 w ax nx cx fx) (hT : TabAt w) :
    Calls Tryd.prog 3 #[.slice ax nx cx] w (Holds1 w) := by
  obtain ⟨X, HX⟩ : ∃ X, Hid (X = be fx nx) := ⟨_, rfl⟩
  have hx : Bs w ax nx cx X := by rw [HX.out]; exact .mk' hfx hsx
  clear hfx hsx HX
  by_cases s0 : 2147483647 < nx
  · go_enter Tryd.func3, Tryd.ntmps3
    go_wp2_with fail
    go_ret
    exact ⟨rfl, .refl _ _⟩
  by_cases t0 : 300 < nx
  · go_enter Tryd.func3, Tryd.ntmps3
    go_wp2_with fail
    with_reducible refine (long_yes t0 hx).mono ?_
    rintro e w1 ⟨rfl, hu1⟩
    go_wp2_with fail
    go_ret
    exact ⟨rfl, hu1⟩
  by_cases h0 : X = 0
  · have k1 := fun (w : World) (h : Bs w ax nx cx X) => iTz_zero (by omega) h h0
    have k2 := fun (w : World) (h : Bs w ax nx cx X) => sTz_zero (by omega) h h0
    replace k1 := Lib.hid k1
    replace k2 := Lib.hid k2
    go_enter Tryd.func3, Tryd.ntmps3
    go_wp2_with fail
    with_reducible refine (long_no t0 hx).mono ?_
    rintro e w1 ⟨rfl, hu1⟩
    go_wp2_with fail
    with_reducible refine (k1.out _ (hx.keep hu1)).mono ?_
    rintro e w2 ⟨rfl, hu2⟩
    go_wp2_with fail
    with_reducible refine (k2.out _ ((hx.keep hu1).keep hu2)).mono ?_
    rintro e w3 ⟨rfl, hu3⟩
    go_wp2_with fail
    go_ret
    exact ⟨by first | rfl | exact ret_bool (by simp), (hu1.trans hu2).trans hu3⟩
  · obtain ⟨t, ht⟩ := IsTz.ex X h0
    have k1 := fun (w : World) (h : Bs w ax nx cx X) (hT : TabAt w) => iTz_any (by omega) h ht hT
    have k2 := fun (w : World) (h : Bs w ax nx cx X) => sTz_any (by omega) h ht
    replace k1 := Lib.hid k1
    replace k2 := Lib.hid k2
    replace hT := Lib.hid hT
    clear ht
    go_enter Tryd.func3, Tryd.ntmps3
    go_wp2_with fail
    with_reducible refine (long_no t0 hx).mono ?_
    rintro e w1 ⟨rfl, hu1⟩
    go_wp2_with fail
    with_reducible refine (k1.out _ (hx.keep hu1) (hT.out.keep hu1)).mono ?_
    rintro e w2 ⟨rfl, hu2⟩
    go_wp2_with fail
    with_reducible refine (k2.out _ ((hx.keep hu1).keep hu2)).mono ?_
    rintro e w3 ⟨rfl, hu3⟩
    go_wp2_with fail
    go_ret
    exact ⟨by first | rfl | exact ret_bool (by simp), (hu1.trans hu2).trans hu3⟩
set_option maxRecDepth 100000 in
set_option maxHeartbeats 4000000 in
theorem law_FnTrailing (ax : Option Addr) (nx cx : Nat) (fx : Nat → Nat) (w : World) (hfx : ∀ i, i < nx → fx i < 256) (hsx : Sl .u8 w ax nx cx fx) (hT : TabAt w) :
    Calls Tryd.prog 4 #[.slice ax nx cx] w (Holds1 w) := by
  obtain ⟨X, HX⟩ : ∃ X, Hid (X = be fx nx) := ⟨_, rfl⟩
  have hx : Bs w ax nx cx X := by rw [HX.out]; exact .mk' hfx hsx
  clear hfx hsx HX
  by_cases s0 : 2147483647 < nx
  · go_enter Tryd.func4, Tryd.ntmps4
    go_wp2_with fail
    go_ret
    exact ⟨rfl, .refl _ _⟩
  by_cases t0 : 290 < nx
  · go_enter Tryd.func4, Tryd.ntmps4
    go_wp2_with fail
    go_ret
    exact ⟨rfl, .refl _ _⟩
  by_cases h0 : X = 0
  · go_enter Tryd.func4, Tryd.ntmps4
    go_wp2_with fail
    with_reducible refine (zero_yes (by omega) hx h0).mono ?_
    rintro e w1 ⟨rfl, hu1⟩
    go_wp2_with fail
    go_ret
    exact ⟨rfl, hu1⟩
  · obtain ⟨t, ht⟩ := IsTz.ex X h0
    have ht2 : t < 8 * nx := by
      refine ht.lt ?_
      have := hx.lt
      rw [pow8] at this
      exact this
    have k1 := fun (w : World) (h : Bs w ax nx cx X) (hT : TabAt w) => iTz_any (by omega) h ht hT
    have k2 := fun (w : World) (a : Option Addr) (c : Nat) (h : Bs w a (nx + 1) c (X * 256)) (hT : TabAt w) => iTz_any (by omega) h ht.byte hT
    obtain ⟨Q, HQ⟩ : ∃ Q, Hid (Q = X / 2 ^ t) := ⟨_, rfl⟩
    have HO : Hid (¬ ¬ Q % 2 = 1) := by show ¬ ¬ _; rw [HQ.out, ht.odd]; simp
    have hQ : nb Q ≤ 290 := by rw [HQ.out]; exact Nat.le_trans (nb_mono (Nat.div_le_self _ _)) (Nat.le_trans hx.nb (by omega))
    have kr := fun (w : World) (h : Bs w ax nx cx X) => iShiftRight_bs t (w := w) (by omega) (by omega) h
    rw [← HQ.out] at kr
    replace k1 := Lib.hid k1
    replace k2 := Lib.hid k2
    replace kr := Lib.hid kr
    replace hT := Lib.hid hT
    clear ht
    go_enter Tryd.func4, Tryd.ntmps4
    go_wp2_with fail
    with_reducible refine (zero_no (by omega) hx h0).mono ?_
    rintro e w1 ⟨rfl, hu1⟩
    replace hx := hx.keep hu1
    go_wp2_with fail
    with_reducible refine (k1.out _ hx (hT.out.keep hu1)).mono ?_
    rintro e w2 ⟨rfl, hu2⟩
    replace hx := hx.keep hu2
    have u := hu1.trans hu2
    go_wp2_with fail
    with_reducible refine (kr.out _ hx).mono ?_
    rintro e w3 ⟨a3, c3, rfl, hs3, hu3⟩
    replace hx := hx.keep hu3
    replace u := u.trans hu3
    go_wp2_with fail
    with_reducible refine (odd_yes (by omega) hs3 HO.out).mono ?_
    rintro e w4 ⟨rfl, hu4⟩
    replace hx := hx.keep hu4
    replace u := u.trans hu4
    clear hu1 hu2 hu3 hu4 hs3
    obtain ⟨g, hg, hs, hG⟩ := hx
    replace hG := Lib.hid hG
    go_wp2_with (at_builtin; first | (refine wpList_unguard rfl ?_; refine wpList_append_sl rfl (.tmp 21) (.tmp 22) 22 rfl w4.heap.size 5 .u8 1 Tryd.underlying22 info_u8 (some ⟨w4.heap.size, 0, none⟩) 0 0 (fun _ => 0) rfl (by exact Grow.made .u8 _ w4 w4.heap.size #[] 0 (fun _ => 0) (Nat.le_refl _) (by simp [maxLen]) rfl) ax nx cx g rfl (by exact hs.keep ((Upd.refl _ _).alloc _)) (by omega) (by omega) (by simp) ?_; intro ay cy w5 hgr hur) | (refine wpList_unguard rfl ?_; refine wpList_append_ints rfl (.tmp 23) (.tmp 24) 22 rfl w4.heap.size 5 .u8 1 Tryd.underlying22 info_u8 ay cy nx g rfl (by exact hgr.copied.keep0 ((Upd.refl _ _).alloc _)) ⟨w5.heap.size, 0, none⟩ 1 1 (fun _ => 0) rfl (by exact Rd.one rfl) (by omega) (by omega) (by simp; have := hur.size; simp at this; omega) ?_; intro az cz w6 hgz huz))
    have hz : Bs w6 az (nx + 1) cz (X * 256) := hgz.byte0 hg hG.out
    have ua : Upd0 w4 w6 := ((((Upd.refl _ w4).alloc _).then hur (fun i hi h => by simp [Value.ownBlock] at h; omega)).alloc _).then huz (fun i hi h => by have := hgr.copied.block i h; omega)
    have u6 := u.trans ua
    clear hgr hur hgz huz hG hs hg g
    go_wp2_with fail
    with_reducible refine (k2.out _ _ _ hz (hT.out.keep u6)).mono ?_
    rintro e w7 ⟨rfl, hu7⟩
    go_wp2_with fail
    go_ret
    exact ⟨by first | rfl | exact ret_bool (by simp), u6.trans hu7⟩
end Go.Proofs.YtgdjhkmofedhpaaDoor
