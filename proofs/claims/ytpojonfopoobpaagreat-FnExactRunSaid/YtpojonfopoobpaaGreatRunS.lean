/-
  Contract: spec.step. (Written ahead of its seat; not built yet.)
-/
import Derived.Test.YtpojonfopoobpaaGreatRunW
namespace Go.Proofs.YtpojonfopoobpaaGreat
open Go.RowKit

set_option maxRecDepth 100000 in
set_option maxHeartbeats 1000000 in
theorem ss_add {ax am aa : Option Addr} {nx cx nm cm na ca X M A : Nat} {w : World} (hnx : nx ≤ 4000) (hnm : nm ≤ 4000) (hna : na ≤ 4000) (hx : Bs w ax nx cx X) (hm : Bs w am nm cm M) (hB : Bs w aa na ca A) (h1 : 1 < M) (hX : X < M) (hA : A < M) :
    Calls Tryz.prog 19 #[.slice ax nx cx, .slice am nm cm, .agg #[.int .i64 0, .slice aa na ca]] w (RetOpt w (some (nb M, (X + A) % M))) := by
  have ub : Upd0 w (w.alloc (.cells #[.int .i64 0, .slice aa na ca] 27)) := (Upd.refl _ _).alloc _
  have hk0 : (w.alloc (.cells #[.int .i64 0, .slice aa na ca] 27)).cell? ⟨w.heap.size, 0, none⟩ = some (.int .i64 0) := by rw [World.cell?_alloc_new]; rfl
  have ha0 : (w.alloc (.cells #[.int .i64 0, .slice aa na ca] 27)).cell? ⟨w.heap.size, 1, none⟩ = some (.slice aa na ca) := by rw [World.cell?_alloc_new]; rfl
  have k0 := sSetBytes_bs hna hnm (hB.keep ub) (hm.keep ub)
  rw [optN_yes ⟨h1, hA⟩] at k0
  replace k0 := Lib.hid k0
  go_enter Tryz.func19, Tryz.ntmps19
  go_wp2_with fail
  with_reducible refine k0.out.mono ?_
  rintro e w1 ⟨_, _, rfl, _, hu0⟩
  have hk1 := hu0.cell (p := ⟨w.heap.size, 0, none⟩) id hk0
  have ha1 := hu0.cell (p := ⟨w.heap.size, 1, none⟩) id ha0
  have hu1 : Upd0 w w1 := ub.trans hu0
  clear hu0 hk0 ha0 ub
  have hx1 := hx.keep hu1
  have hm1 := hm.keep hu1
  have hB1 := hB.keep hu1
  have k1 := sAdd_bs hnx hna hnm hx1 hB1 hm1
  rw [optN_yes ⟨h1, hX, hA⟩] at k1
  replace k1 := Lib.hid k1
  go_wp2_with fail
  with_reducible refine k1.out.mono ?_
  rintro e w2 ⟨a2, c2, rfl, hs2, hu2⟩
  go_wp2_with fail
  go_ret2
  exact ⟨a2, c2, rfl, hs2, hu1.trans hu2⟩
set_option maxRecDepth 100000 in
set_option maxHeartbeats 1000000 in
theorem ss_sub {ax am aa : Option Addr} {nx cx nm cm na ca X M A : Nat} {w : World} (hnx : nx ≤ 4000) (hnm : nm ≤ 4000) (hna : na ≤ 4000) (hx : Bs w ax nx cx X) (hm : Bs w am nm cm M) (hB : Bs w aa na ca A) (h1 : 1 < M) (hX : X < M) (hA : A < M) :
    Calls Tryz.prog 19 #[.slice ax nx cx, .slice am nm cm, .agg #[.int .i64 1, .slice aa na ca]] w (RetOpt w (some (nb M, (X + M - A) % M))) := by
  have ub : Upd0 w (w.alloc (.cells #[.int .i64 1, .slice aa na ca] 27)) := (Upd.refl _ _).alloc _
  have hk0 : (w.alloc (.cells #[.int .i64 1, .slice aa na ca] 27)).cell? ⟨w.heap.size, 0, none⟩ = some (.int .i64 1) := by rw [World.cell?_alloc_new]; rfl
  have ha0 : (w.alloc (.cells #[.int .i64 1, .slice aa na ca] 27)).cell? ⟨w.heap.size, 1, none⟩ = some (.slice aa na ca) := by rw [World.cell?_alloc_new]; rfl
  have k0 := sSetBytes_bs hna hnm (hB.keep ub) (hm.keep ub)
  rw [optN_yes ⟨h1, hA⟩] at k0
  replace k0 := Lib.hid k0
  go_enter Tryz.func19, Tryz.ntmps19
  go_wp2_with fail
  with_reducible refine k0.out.mono ?_
  rintro e w1 ⟨_, _, rfl, _, hu0⟩
  have hk1 := hu0.cell (p := ⟨w.heap.size, 0, none⟩) id hk0
  have ha1 := hu0.cell (p := ⟨w.heap.size, 1, none⟩) id ha0
  have hu1 : Upd0 w w1 := ub.trans hu0
  clear hu0 hk0 ha0 ub
  have hx1 := hx.keep hu1
  have hm1 := hm.keep hu1
  have hB1 := hB.keep hu1
  have k1 := sSub_bs hnx hna hnm hx1 hB1 hm1
  rw [optN_yes ⟨h1, hX, hA⟩] at k1
  replace k1 := Lib.hid k1
  go_wp2_with fail
  with_reducible refine k1.out.mono ?_
  rintro e w2 ⟨a2, c2, rfl, hs2, hu2⟩
  go_wp2_with fail
  go_ret2
  exact ⟨a2, c2, rfl, hs2, hu1.trans hu2⟩
set_option maxRecDepth 100000 in
set_option maxHeartbeats 1000000 in
theorem ss_mul {ax am aa : Option Addr} {nx cx nm cm na ca X M A : Nat} {w : World} (hnx : nx ≤ 4000) (hnm : nm ≤ 4000) (hna : na ≤ 4000) (hx : Bs w ax nx cx X) (hm : Bs w am nm cm M) (hB : Bs w aa na ca A) (h1 : 1 < M) (hX : X < M) (hA : A < M) :
    Calls Tryz.prog 19 #[.slice ax nx cx, .slice am nm cm, .agg #[.int .i64 2, .slice aa na ca]] w (RetOpt w (some (nb M, X * A % M))) := by
  have ub : Upd0 w (w.alloc (.cells #[.int .i64 2, .slice aa na ca] 27)) := (Upd.refl _ _).alloc _
  have hk0 : (w.alloc (.cells #[.int .i64 2, .slice aa na ca] 27)).cell? ⟨w.heap.size, 0, none⟩ = some (.int .i64 2) := by rw [World.cell?_alloc_new]; rfl
  have ha0 : (w.alloc (.cells #[.int .i64 2, .slice aa na ca] 27)).cell? ⟨w.heap.size, 1, none⟩ = some (.slice aa na ca) := by rw [World.cell?_alloc_new]; rfl
  have k0 := sSetBytes_bs hna hnm (hB.keep ub) (hm.keep ub)
  rw [optN_yes ⟨h1, hA⟩] at k0
  replace k0 := Lib.hid k0
  go_enter Tryz.func19, Tryz.ntmps19
  go_wp2_with fail
  with_reducible refine k0.out.mono ?_
  rintro e w1 ⟨_, _, rfl, _, hu0⟩
  have hk1 := hu0.cell (p := ⟨w.heap.size, 0, none⟩) id hk0
  have ha1 := hu0.cell (p := ⟨w.heap.size, 1, none⟩) id ha0
  have hu1 : Upd0 w w1 := ub.trans hu0
  clear hu0 hk0 ha0 ub
  have hx1 := hx.keep hu1
  have hm1 := hm.keep hu1
  have hB1 := hB.keep hu1
  have k1 := sMul_bs hnx hna hnm hx1 hB1 hm1
  rw [optN_yes ⟨h1, hX, hA⟩] at k1
  replace k1 := Lib.hid k1
  go_wp2_with fail
  with_reducible refine k1.out.mono ?_
  rintro e w2 ⟨a2, c2, rfl, hs2, hu2⟩
  go_wp2_with fail
  go_ret2
  exact ⟨a2, c2, rfl, hs2, hu1.trans hu2⟩
set_option maxRecDepth 100000 in
set_option maxHeartbeats 1000000 in
theorem ss_dbl {ax am aa : Option Addr} {nx cx nm cm na ca X M A : Nat} {w : World} (hnx : nx ≤ 4000) (hnm : nm ≤ 4000) (hna : na ≤ 4000) (hx : Bs w ax nx cx X) (hm : Bs w am nm cm M) (hB : Bs w aa na ca A) (h1 : 1 < M) (hX : X < M) (hA : A < M) :
    Calls Tryz.prog 19 #[.slice ax nx cx, .slice am nm cm, .agg #[.int .i64 3, .slice aa na ca]] w (RetOpt w (some (nb M, (X + X) % M))) := by
  have ub : Upd0 w (w.alloc (.cells #[.int .i64 3, .slice aa na ca] 27)) := (Upd.refl _ _).alloc _
  have hk0 : (w.alloc (.cells #[.int .i64 3, .slice aa na ca] 27)).cell? ⟨w.heap.size, 0, none⟩ = some (.int .i64 3) := by rw [World.cell?_alloc_new]; rfl
  have ha0 : (w.alloc (.cells #[.int .i64 3, .slice aa na ca] 27)).cell? ⟨w.heap.size, 1, none⟩ = some (.slice aa na ca) := by rw [World.cell?_alloc_new]; rfl
  have k0 := sSetBytes_bs hna hnm (hB.keep ub) (hm.keep ub)
  rw [optN_yes ⟨h1, hA⟩] at k0
  replace k0 := Lib.hid k0
  go_enter Tryz.func19, Tryz.ntmps19
  go_wp2_with fail
  with_reducible refine k0.out.mono ?_
  rintro e w1 ⟨_, _, rfl, _, hu0⟩
  have hk1 := hu0.cell (p := ⟨w.heap.size, 0, none⟩) id hk0
  have ha1 := hu0.cell (p := ⟨w.heap.size, 1, none⟩) id ha0
  have hu1 : Upd0 w w1 := ub.trans hu0
  clear hu0 hk0 ha0 ub
  have hx1 := hx.keep hu1
  have hm1 := hm.keep hu1
  have hB1 := hB.keep hu1
  have k1 := sAdd_bs hnx hnx hnm hx1 hx1 hm1
  rw [optN_yes ⟨h1, hX, hX⟩] at k1
  replace k1 := Lib.hid k1
  go_wp2_with fail
  with_reducible refine k1.out.mono ?_
  rintro e w2 ⟨a2, c2, rfl, hs2, hu2⟩
  go_wp2_with fail
  go_ret2
  exact ⟨a2, c2, rfl, hs2, hu1.trans hu2⟩
set_option maxRecDepth 100000 in
set_option maxHeartbeats 1000000 in
theorem ss_sqr {ax am aa : Option Addr} {nx cx nm cm na ca X M A : Nat} {w : World} (hnx : nx ≤ 4000) (hnm : nm ≤ 4000) (hna : na ≤ 4000) (hx : Bs w ax nx cx X) (hm : Bs w am nm cm M) (hB : Bs w aa na ca A) (h1 : 1 < M) (hX : X < M) (hA : A < M) :
    Calls Tryz.prog 19 #[.slice ax nx cx, .slice am nm cm, .agg #[.int .i64 4, .slice aa na ca]] w (RetOpt w (some (nb M, X * X % M))) := by
  have ub : Upd0 w (w.alloc (.cells #[.int .i64 4, .slice aa na ca] 27)) := (Upd.refl _ _).alloc _
  have hk0 : (w.alloc (.cells #[.int .i64 4, .slice aa na ca] 27)).cell? ⟨w.heap.size, 0, none⟩ = some (.int .i64 4) := by rw [World.cell?_alloc_new]; rfl
  have ha0 : (w.alloc (.cells #[.int .i64 4, .slice aa na ca] 27)).cell? ⟨w.heap.size, 1, none⟩ = some (.slice aa na ca) := by rw [World.cell?_alloc_new]; rfl
  have k0 := sSetBytes_bs hna hnm (hB.keep ub) (hm.keep ub)
  rw [optN_yes ⟨h1, hA⟩] at k0
  replace k0 := Lib.hid k0
  go_enter Tryz.func19, Tryz.ntmps19
  go_wp2_with fail
  with_reducible refine k0.out.mono ?_
  rintro e w1 ⟨_, _, rfl, _, hu0⟩
  have hk1 := hu0.cell (p := ⟨w.heap.size, 0, none⟩) id hk0
  have ha1 := hu0.cell (p := ⟨w.heap.size, 1, none⟩) id ha0
  have hu1 : Upd0 w w1 := ub.trans hu0
  clear hu0 hk0 ha0 ub
  have hx1 := hx.keep hu1
  have hm1 := hm.keep hu1
  have hB1 := hB.keep hu1
  have k1 := sMul_bs hnx hnx hnm hx1 hx1 hm1
  rw [optN_yes ⟨h1, hX, hX⟩] at k1
  replace k1 := Lib.hid k1
  go_wp2_with fail
  with_reducible refine k1.out.mono ?_
  rintro e w2 ⟨a2, c2, rfl, hs2, hu2⟩
  go_wp2_with fail
  go_ret2
  exact ⟨a2, c2, rfl, hs2, hu1.trans hu2⟩
set_option maxRecDepth 100000 in
set_option maxHeartbeats 1000000 in
theorem ss_can {ax am aa : Option Addr} {nx cx nm cm na ca X M A : Nat} {w : World} (hnx : nx ≤ 4000) (hnm : nm ≤ 4000) (hna : na ≤ 4000) (hx : Bs w ax nx cx X) (hm : Bs w am nm cm M) (hB : Bs w aa na ca A) (h1 : 1 < M) (hX : X < M) (hA : A < M) :
    Calls Tryz.prog 19 #[.slice ax nx cx, .slice am nm cm, .agg #[.int .i64 9, .slice aa na ca]] w (RetOpt w (some (nb M, (X + M - X) % M))) := by
  have ub : Upd0 w (w.alloc (.cells #[.int .i64 9, .slice aa na ca] 27)) := (Upd.refl _ _).alloc _
  have hk0 : (w.alloc (.cells #[.int .i64 9, .slice aa na ca] 27)).cell? ⟨w.heap.size, 0, none⟩ = some (.int .i64 9) := by rw [World.cell?_alloc_new]; rfl
  have ha0 : (w.alloc (.cells #[.int .i64 9, .slice aa na ca] 27)).cell? ⟨w.heap.size, 1, none⟩ = some (.slice aa na ca) := by rw [World.cell?_alloc_new]; rfl
  have k0 := sSetBytes_bs hna hnm (hB.keep ub) (hm.keep ub)
  rw [optN_yes ⟨h1, hA⟩] at k0
  replace k0 := Lib.hid k0
  go_enter Tryz.func19, Tryz.ntmps19
  go_wp2_with fail
  with_reducible refine k0.out.mono ?_
  rintro e w1 ⟨_, _, rfl, _, hu0⟩
  have hk1 := hu0.cell (p := ⟨w.heap.size, 0, none⟩) id hk0
  have ha1 := hu0.cell (p := ⟨w.heap.size, 1, none⟩) id ha0
  have hu1 : Upd0 w w1 := ub.trans hu0
  clear hu0 hk0 ha0 ub
  have hx1 := hx.keep hu1
  have hm1 := hm.keep hu1
  have hB1 := hB.keep hu1
  have k1 := sSub_bs hnx hnx hnm hx1 hx1 hm1
  rw [optN_yes ⟨h1, hX, hX⟩] at k1
  replace k1 := Lib.hid k1
  go_wp2_with fail
  with_reducible refine k1.out.mono ?_
  rintro e w2 ⟨a2, c2, rfl, hs2, hu2⟩
  go_wp2_with fail
  go_ret2
  exact ⟨a2, c2, rfl, hs2, hu1.trans hu2⟩
set_option maxRecDepth 100000 in
set_option maxHeartbeats 1000000 in
theorem ss_one {ax am aa : Option Addr} {nx cx nm cm na ca X M A : Nat} {w : World} (hnx : nx ≤ 4000) (hnm : nm ≤ 4000) (hna : na ≤ 4000) (hx : Bs w ax nx cx X) (hm : Bs w am nm cm M) (hB : Bs w aa na ca A) (h1 : 1 < M) (hX : X < M) (hA : A < M) :
    Calls Tryz.prog 19 #[.slice ax nx cx, .slice am nm cm, .agg #[.int .i64 6, .slice aa na ca]] w (RetOpt w (some (nb M, (X + M - 1) % M))) := by
  have ub : Upd0 w (w.alloc (.cells #[.int .i64 6, .slice aa na ca] 27)) := (Upd.refl _ _).alloc _
  have hk0 : (w.alloc (.cells #[.int .i64 6, .slice aa na ca] 27)).cell? ⟨w.heap.size, 0, none⟩ = some (.int .i64 6) := by rw [World.cell?_alloc_new]; rfl
  have ha0 : (w.alloc (.cells #[.int .i64 6, .slice aa na ca] 27)).cell? ⟨w.heap.size, 1, none⟩ = some (.slice aa na ca) := by rw [World.cell?_alloc_new]; rfl
  have k0 := sSetBytes_bs hna hnm (hB.keep ub) (hm.keep ub)
  rw [optN_yes ⟨h1, hA⟩] at k0
  replace k0 := Lib.hid k0
  go_enter Tryz.func19, Tryz.ntmps19
  go_wp2_with fail
  with_reducible refine k0.out.mono ?_
  rintro e w1 ⟨_, _, rfl, _, hu0⟩
  have hk1 := hu0.cell (p := ⟨w.heap.size, 0, none⟩) id hk0
  have ha1 := hu0.cell (p := ⟨w.heap.size, 1, none⟩) id ha0
  have hu1 : Upd0 w w1 := ub.trans hu0
  clear hu0 hk0 ha0 ub
  have hx1 := hx.keep hu1
  have hm1 := hm.keep hu1
  have hB1 := hB.keep hu1
  have ua : Upd0 w1 (w1.alloc (.cells #[.int .u8 1] 5)) := (Upd.refl _ _).alloc _
  have hL := Bs.one w1 1 (by omega) 5
  have k1 := sSub_bs hnx (by omega) hnm (hx1.keep ua) hL (hm1.keep ua)
  rw [optN_yes ⟨h1, hX, h1⟩] at k1
  replace k1 := Lib.hid k1
  go_wp2_with fail
  with_reducible refine k1.out.mono ?_
  rintro e w2 ⟨a2, c2, rfl, hs2, hu2⟩
  go_wp2_with fail
  go_ret2
  exact ⟨a2, c2, rfl, hs2, (hu1.trans ua).trans hu2⟩
set_option maxRecDepth 100000 in
set_option maxHeartbeats 1000000 in
theorem ss_inv {ax am aa : Option Addr} {nx cx nm cm na ca X M A : Nat} {w : World} (hnx : nx ≤ 4000) (hnm : nm ≤ 4000) (hna : na ≤ 4000) (hx : Bs w ax nx cx X) (hm : Bs w am nm cm M) (hB : Bs w aa na ca A) (h1 : 1 < M) (hX : X < M) (hA : A < M) :
    Calls Tryz.prog 19 #[.slice ax nx cx, .slice am nm cm, .agg #[.int .i64 7, .slice aa na ca]] w (RetOpt w ((if Nat.gcd X M = 1 then some (invN X M) else none).map fun Y => (nb M, Y))) := by
  by_cases hg : Nat.gcd X M = 1
  · rw [if_pos hg]
    have HG := Lib.hid hg
    clear hg
    have ub : Upd0 w (w.alloc (.cells #[.int .i64 7, .slice aa na ca] 27)) := (Upd.refl _ _).alloc _
    have hk0 : (w.alloc (.cells #[.int .i64 7, .slice aa na ca] 27)).cell? ⟨w.heap.size, 0, none⟩ = some (.int .i64 7) := by rw [World.cell?_alloc_new]; rfl
    have ha0 : (w.alloc (.cells #[.int .i64 7, .slice aa na ca] 27)).cell? ⟨w.heap.size, 1, none⟩ = some (.slice aa na ca) := by rw [World.cell?_alloc_new]; rfl
    have k0 := sSetBytes_bs hna hnm (hB.keep ub) (hm.keep ub)
    rw [optN_yes ⟨h1, hA⟩] at k0
    replace k0 := Lib.hid k0
    go_enter Tryz.func19, Tryz.ntmps19
    go_wp2_with fail
    with_reducible refine k0.out.mono ?_
    rintro e w1 ⟨_, _, rfl, _, hu0⟩
    have hk1 := hu0.cell (p := ⟨w.heap.size, 0, none⟩) id hk0
    have ha1 := hu0.cell (p := ⟨w.heap.size, 1, none⟩) id ha0
    have hu1 : Upd0 w w1 := ub.trans hu0
    clear hu0 hk0 ha0 ub
    have hx1 := hx.keep hu1
    have hm1 := hm.keep hu1
    have hB1 := hB.keep hu1
    have k1 := sInverse_bs hnx hnm hx1 hm1
    rw [optN_yes ⟨h1, hX, HG.out⟩] at k1
    replace k1 := Lib.hid k1
    go_wp2_with fail
    with_reducible refine k1.out.mono ?_
    rintro e w2 ⟨a2, c2, rfl, hs2, hu2⟩
    go_wp2_with fail
    go_ret2
    exact ⟨a2, c2, rfl, hs2, hu1.trans hu2⟩
  · rw [if_neg hg]
    have HG := Lib.hid hg
    clear hg
    have ub : Upd0 w (w.alloc (.cells #[.int .i64 7, .slice aa na ca] 27)) := (Upd.refl _ _).alloc _
    have hk0 : (w.alloc (.cells #[.int .i64 7, .slice aa na ca] 27)).cell? ⟨w.heap.size, 0, none⟩ = some (.int .i64 7) := by rw [World.cell?_alloc_new]; rfl
    have ha0 : (w.alloc (.cells #[.int .i64 7, .slice aa na ca] 27)).cell? ⟨w.heap.size, 1, none⟩ = some (.slice aa na ca) := by rw [World.cell?_alloc_new]; rfl
    have k0 := sSetBytes_bs hna hnm (hB.keep ub) (hm.keep ub)
    rw [optN_yes ⟨h1, hA⟩] at k0
    replace k0 := Lib.hid k0
    go_enter Tryz.func19, Tryz.ntmps19
    go_wp2_with fail
    with_reducible refine k0.out.mono ?_
    rintro e w1 ⟨_, _, rfl, _, hu0⟩
    have hk1 := hu0.cell (p := ⟨w.heap.size, 0, none⟩) id hk0
    have ha1 := hu0.cell (p := ⟨w.heap.size, 1, none⟩) id ha0
    have hu1 : Upd0 w w1 := ub.trans hu0
    clear hu0 hk0 ha0 ub
    have hx1 := hx.keep hu1
    have hm1 := hm.keep hu1
    have hB1 := hB.keep hu1
    have k1 := sInverse_bs hnx hnm hx1 hm1
    rw [optN_no (fun h => HG.out h.2.2)] at k1
    replace k1 := Lib.hid k1
    go_wp2_with fail
    with_reducible refine k1.out.mono ?_
    rintro e w2 ⟨rfl, hu2⟩
    go_wp2_with fail
    go_ret2
    exact ⟨rfl, hu1.trans hu2⟩
set_option maxRecDepth 100000 in
set_option maxHeartbeats 1000000 in
theorem ss_exp {ax am aa : Option Addr} {nx cx nm cm na ca X M A : Nat} {w : World} (hnx : nx ≤ 4000) (hnm : nm ≤ 4000) (hna : na ≤ 4000) (hx : Bs w ax nx cx X) (hm : Bs w am nm cm M) (hB : Bs w aa na ca A) (h1 : 1 < M) (hX : X < M) :
    Calls Tryz.prog 19 #[.slice ax nx cx, .slice am nm cm, .agg #[.int .i64 5, .slice aa na ca]] w (RetOpt w ((if M % 2 = 1 then some (X ^ A % M) else none).map fun Y => (nb M, Y))) := by
  have ub : Upd0 w (w.alloc (.cells #[.int .i64 5, .slice aa na ca] 27)) := (Upd.refl _ _).alloc _
  have hk0 : (w.alloc (.cells #[.int .i64 5, .slice aa na ca] 27)).cell? ⟨w.heap.size, 0, none⟩ = some (.int .i64 5) := by rw [World.cell?_alloc_new]; rfl
  have ha0 : (w.alloc (.cells #[.int .i64 5, .slice aa na ca] 27)).cell? ⟨w.heap.size, 1, none⟩ = some (.slice aa na ca) := by rw [World.cell?_alloc_new]; rfl
  have k0 := sSetBytes_bs hna hnm (hB.keep ub) (hm.keep ub)
  by_cases ho : M % 2 = 1
  · rw [if_pos ho]
    have HO : Hid (1 < M ∧ X < M ∧ M % 2 = 1) := ⟨h1, hX, ho⟩
    clear ho
    by_cases hA : A < M
    · rw [optN_yes ⟨h1, hA⟩] at k0
      replace k0 := Lib.hid k0
      go_enter Tryz.func19, Tryz.ntmps19
      go_wp2_with fail
      with_reducible refine k0.out.mono ?_
      rintro e w1 ⟨_, _, rfl, _, hu0⟩
      have hk1 := hu0.cell (p := ⟨w.heap.size, 0, none⟩) id hk0
      have ha1 := hu0.cell (p := ⟨w.heap.size, 1, none⟩) id ha0
      have hu1 : Upd0 w w1 := ub.trans hu0
      clear hu0 hk0 ha0 ub
      have k1 := sExp_bs hnx (by omega) hnm (hx.keep hu1) (hB.keep hu1) (hm.keep hu1)
      rw [optN_yes HO.out] at k1
      replace k1 := Lib.hid k1
      go_wp2_with fail
      with_reducible refine k1.out.mono ?_
      rintro e w2 ⟨a2, c2, rfl, hs2, hu2⟩
      go_wp2_with fail
      go_ret2
      exact ⟨a2, c2, rfl, hs2, hu1.trans hu2⟩
    · rw [optN_no (fun h => hA h.2)] at k0
      replace k0 := Lib.hid k0
      go_enter Tryz.func19, Tryz.ntmps19
      go_wp2_with fail
      with_reducible refine k0.out.mono ?_
      rintro e w1 ⟨rfl, hu0⟩
      have hk1 := hu0.cell (p := ⟨w.heap.size, 0, none⟩) id hk0
      have ha1 := hu0.cell (p := ⟨w.heap.size, 1, none⟩) id ha0
      have hu1 : Upd0 w w1 := ub.trans hu0
      clear hu0 hk0 ha0 ub
      have k1 := sExp_bs hnx (by omega) hnm (hx.keep hu1) (hB.keep hu1) (hm.keep hu1)
      rw [optN_yes HO.out] at k1
      replace k1 := Lib.hid k1
      go_wp2_with fail
      with_reducible refine k1.out.mono ?_
      rintro e w2 ⟨a2, c2, rfl, hs2, hu2⟩
      go_wp2_with fail
      go_ret2
      exact ⟨a2, c2, rfl, hs2, hu1.trans hu2⟩
  · rw [if_neg ho]
    have HO : Hid (¬ (1 < M ∧ X < M ∧ M % 2 = 1)) := fun h => ho h.2.2
    clear ho
    by_cases hA : A < M
    · rw [optN_yes ⟨h1, hA⟩] at k0
      replace k0 := Lib.hid k0
      go_enter Tryz.func19, Tryz.ntmps19
      go_wp2_with fail
      with_reducible refine k0.out.mono ?_
      rintro e w1 ⟨_, _, rfl, _, hu0⟩
      have hk1 := hu0.cell (p := ⟨w.heap.size, 0, none⟩) id hk0
      have ha1 := hu0.cell (p := ⟨w.heap.size, 1, none⟩) id ha0
      have hu1 : Upd0 w w1 := ub.trans hu0
      clear hu0 hk0 ha0 ub
      have k1 := sExp_bs hnx (by omega) hnm (hx.keep hu1) (hB.keep hu1) (hm.keep hu1)
      rw [optN_no HO.out] at k1
      replace k1 := Lib.hid k1
      go_wp2_with fail
      with_reducible refine k1.out.mono ?_
      rintro e w2 ⟨rfl, hu2⟩
      go_wp2_with fail
      go_ret2
      exact ⟨rfl, hu1.trans hu2⟩
    · rw [optN_no (fun h => hA h.2)] at k0
      replace k0 := Lib.hid k0
      go_enter Tryz.func19, Tryz.ntmps19
      go_wp2_with fail
      with_reducible refine k0.out.mono ?_
      rintro e w1 ⟨rfl, hu0⟩
      have hk1 := hu0.cell (p := ⟨w.heap.size, 0, none⟩) id hk0
      have ha1 := hu0.cell (p := ⟨w.heap.size, 1, none⟩) id ha0
      have hu1 : Upd0 w w1 := ub.trans hu0
      clear hu0 hk0 ha0 ub
      have k1 := sExp_bs hnx (by omega) hnm (hx.keep hu1) (hB.keep hu1) (hm.keep hu1)
      rw [optN_no HO.out] at k1
      replace k1 := Lib.hid k1
      go_wp2_with fail
      with_reducible refine k1.out.mono ?_
      rintro e w2 ⟨rfl, hu2⟩
      go_wp2_with fail
      go_ret2
      exact ⟨rfl, hu1.trans hu2⟩
set_option maxRecDepth 100000 in
set_option maxHeartbeats 1000000 in
theorem ss_other {ax am aa : Option Addr} {nx cx nm cm na ca M A : Nat} {z : Int} {w : World} (hnm : nm ≤ 4000) (hna : na ≤ 4000) (hm : Bs w am nm cm M) (hB : Bs w aa na ca A) (h1 : 1 < M) (hA : A < M) (hz : z ≠ 0 ∧ z ≠ 1 ∧ z ≠ 2 ∧ z ≠ 3 ∧ z ≠ 4 ∧ z ≠ 5 ∧ z ≠ 6 ∧ z ≠ 7 ∧ z ≠ 8 ∧ z ≠ 9) :
    Calls Tryz.prog 19 #[.slice ax nx cx, .slice am nm cm, .agg #[.int .i64 z, .slice aa na ca]] w (RetOpt w none) := by
  obtain ⟨z0, z1, z2, z3, z4, z5, z6, z7, z8, z9⟩ := hz
  have f0 : (z == 0) = false := beq_eq_false_iff_ne.2 z0
  have f1 : (z == 1) = false := beq_eq_false_iff_ne.2 z1
  have f2 : (z == 2) = false := beq_eq_false_iff_ne.2 z2
  have f3 : (z == 3) = false := beq_eq_false_iff_ne.2 z3
  have f4 : (z == 4) = false := beq_eq_false_iff_ne.2 z4
  have f5 : (z == 5) = false := beq_eq_false_iff_ne.2 z5
  have f6 : (z == 6) = false := beq_eq_false_iff_ne.2 z6
  have f7 : (z == 7) = false := beq_eq_false_iff_ne.2 z7
  have f8 : (z == 8) = false := beq_eq_false_iff_ne.2 z8
  have f9 : (z == 9) = false := beq_eq_false_iff_ne.2 z9
  have g5 : (z != 5) = true := bne_iff_ne.2 z5
  clear z0 z1 z2 z3 z4 z5 z6 z7 z8 z9
  have ub : Upd0 w (w.alloc (.cells #[.int .i64 z, .slice aa na ca] 27)) := (Upd.refl _ _).alloc _
  have hk0 : (w.alloc (.cells #[.int .i64 z, .slice aa na ca] 27)).cell? ⟨w.heap.size, 0, none⟩ = some (.int .i64 z) := by rw [World.cell?_alloc_new]; rfl
  have ha0 : (w.alloc (.cells #[.int .i64 z, .slice aa na ca] 27)).cell? ⟨w.heap.size, 1, none⟩ = some (.slice aa na ca) := by rw [World.cell?_alloc_new]; rfl
  have k0 := sSetBytes_bs hna hnm (hB.keep ub) (hm.keep ub)
  rw [optN_yes ⟨h1, hA⟩] at k0
  replace k0 := Lib.hid k0
  go_enter Tryz.func19, Tryz.ntmps19
  go_wp2_with fail
  with_reducible refine k0.out.mono ?_
  rintro e w1 ⟨_, _, rfl, _, hu0⟩
  have hk1 := hu0.cell (p := ⟨w.heap.size, 0, none⟩) id hk0
  have ha1 := hu0.cell (p := ⟨w.heap.size, 1, none⟩) id ha0
  have hu1 : Upd0 w w1 := ub.trans hu0
  clear hu0 hk0 ha0 ub
  go_wp2_with fail
  go_ret2
  exact ⟨rfl, hu1⟩
set_option maxRecDepth 100000 in
set_option maxHeartbeats 1000000 in
theorem ss_no {ax am aa : Option Addr} {nx cx nm cm na ca M A : Nat} {z : Int} {w : World} (hnm : nm ≤ 4000) (hna : na ≤ 4000) (hm : Bs w am nm cm M) (hB : Bs w aa na ca A) (hA : ¬ A < M) (hz : z ≠ 5) :
    Calls Tryz.prog 19 #[.slice ax nx cx, .slice am nm cm, .agg #[.int .i64 z, .slice aa na ca]] w (RetOpt w none) := by
  have g5 : (z != 5) = true := bne_iff_ne.2 hz
  have ub : Upd0 w (w.alloc (.cells #[.int .i64 z, .slice aa na ca] 27)) := (Upd.refl _ _).alloc _
  have hk0 : (w.alloc (.cells #[.int .i64 z, .slice aa na ca] 27)).cell? ⟨w.heap.size, 0, none⟩ = some (.int .i64 z) := by rw [World.cell?_alloc_new]; rfl
  have ha0 : (w.alloc (.cells #[.int .i64 z, .slice aa na ca] 27)).cell? ⟨w.heap.size, 1, none⟩ = some (.slice aa na ca) := by rw [World.cell?_alloc_new]; rfl
  have k0 := sSetBytes_bs hna hnm (hB.keep ub) (hm.keep ub)
  rw [optN_no (fun h => hA h.2)] at k0
  replace k0 := Lib.hid k0
  clear hz
  go_enter Tryz.func19, Tryz.ntmps19
  go_wp2_with fail
  with_reducible refine k0.out.mono ?_
  rintro e w1 ⟨rfl, hu0⟩
  have hk1 := hu0.cell (p := ⟨w.heap.size, 0, none⟩) id hk0
  have ha1 := hu0.cell (p := ⟨w.heap.size, 1, none⟩) id ha0
  have hu1 : Upd0 w w1 := ub.trans hu0
  clear hu0 hk0 ha0 ub
  go_wp2_with fail
  go_ret2
  exact ⟨rfl, hu1⟩
/-- The reference's step, but for kind 8. -/
theorem sStep_any {ax am aa : Option Addr} {nx cx nm cm na ca X M A : Nat} {z : Int} {w : World} (hnx : nx ≤ 4000) (hnm : nm ≤ 4000) (hna : na ≤ 4000) (hx : Bs w ax nx cx X) (hm : Bs w am nm cm M) (hB : Bs w aa na ca A) (h1 : 1 < M) (hX : X < M) (hz : z ≠ 8) :
    Calls Tryz.prog 19 #[.slice ax nx cx, .slice am nm cm, .agg #[.int .i64 z, .slice aa na ca]] w (RetOpt w ((stepN M X A z).map fun Y => (nb M, Y))) := by
  unfold stepN
  by_cases h5 : z = 5
  · rw [if_pos h5]; subst h5; exact ss_exp hnx hnm hna hx hm hB h1 hX
  · rw [if_neg h5]
    unfold stpN
    by_cases hA : A < M
    · rw [if_pos hA]
      by_cases g0 : z = 0
      · subst g0; exact ss_add hnx hnm hna hx hm hB h1 hX hA
      · rw [if_neg g0]
        by_cases g1 : z = 1
        · subst g1; exact ss_sub hnx hnm hna hx hm hB h1 hX hA
        · rw [if_neg g1]
          by_cases g2 : z = 2
          · subst g2; exact ss_mul hnx hnm hna hx hm hB h1 hX hA
          · rw [if_neg g2]
            by_cases g3 : z = 3
            · subst g3; exact ss_dbl hnx hnm hna hx hm hB h1 hX hA
            · rw [if_neg g3]
              by_cases g4 : z = 4
              · subst g4; exact ss_sqr hnx hnm hna hx hm hB h1 hX hA
              · rw [if_neg g4]
                by_cases g6 : z = 6
                · subst g6; exact ss_one hnx hnm hna hx hm hB h1 hX hA
                · rw [if_neg g6]
                  by_cases g7 : z = 7
                  · subst g7; exact ss_inv hnx hnm hna hx hm hB h1 hX hA
                  · rw [if_neg g7, if_neg hz]
                    by_cases g9 : z = 9
                    · subst g9; exact ss_can hnx hnm hna hx hm hB h1 hX hA
                    · rw [if_neg g9]; exact ss_other hnm hna hm hB h1 hA ⟨g0, g1, g2, g3, g4, h5, g6, g7, hz, g9⟩
    · rw [if_neg hA]; exact ss_no hnm hna hm hB hA h5
end Go.Proofs.YtpojonfopoobpaaGreat
