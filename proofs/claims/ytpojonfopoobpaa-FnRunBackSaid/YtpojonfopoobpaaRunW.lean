/-
  Contract: impl.withArg. (Written ahead of its seat; not built yet.)
-/
import Derived.Test.YtpojonfopoobpaaLwH
namespace Go.Proofs.Ytpojonfopoobpaa
open Go.RowKit

/-- What a step with an argument makes of the number X. -/
noncomputable def stpN (M X A : Nat) (z : Int) : Option Nat :=
  if A < M then
    (if z = 0 then some ((X + A) % M) else if z = 1 then some ((X + M - A) % M) else if z = 2 then some (X * A % M) else if z = 3 then some ((X + X) % M) else if z = 4 then some (X * X % M)
     else if z = 6 then some ((X + M - 1) % M) else if z = 7 then (if Nat.gcd X M = 1 then some (invN X M) else none) else if z = 8 then some (X % M) else if z = 9 then some ((X + M - X) % M) else none)
  else none
/-- What a step makes of the number X. -/
noncomputable def stepN (M X A : Nat) (z : Int) : Option Nat := if z = 5 then (if M % 2 = 1 then some (X ^ A % M) else none) else stpN M X A z
theorem stpN_lt {M X A Y : Nat} {z : Int} (hM : 1 < M) (hX : X < M) (h : stpN M X A z = some Y) : Y < M := by
  have hp : 0 < M := by omega
  unfold stpN at h
  repeat' (split at h)
  all_goals first | (cases h; exact Nat.mod_lt _ hp) | (cases h; exact (invN_is hM hX ‹_›).lt) | cases h
/-- What withArg returns. -/
def RetStep (w : World) (p b n : Nat) (o : Option Nat) (e : Ending) (w' : World) : Prop :=
  match o with
  | some Y => e = .returned (.bool true) ∧ Grown w p b n Y w'
  | none => e = .returned (.bool false) ∧ Upd (fun k => k = p ∨ k = b) w w'
theorem Grown.same {w w' : World} {p b c n X : Nat} (h : NatAt w' p b c n X) (hu : Upd (fun k => k = b) w w') : Grown w p b n X w' := ⟨b, c, h, .inl rfl, hu.mono (fun _ _ h => .inr h)⟩
set_option maxRecDepth 100000 in
set_option maxHeartbeats 1000000 in
theorem wa_add {p b c n X s mp M na ca A : Nat} {aa : Option Addr} {w : World} (hx : NatAt w p b c n X) (hm : ModAt w s mp n M) (hX : X < M) (_hp : s ≤ p) (hb : s ≤ b) (hna : na ≤ 8 * n) (hB : Bs w aa na ca A) (hA : A < M) :
    Calls Try.prog 54 #[.pointer (some ⟨p, 0, none⟩), .agg #[.int .i64 0, .slice aa na ca], .pointer (some ⟨mp, 0, none⟩)] w (RetStep w p b n (some ((X + A) % M))) := by
  have ub : Upd0 w (w.alloc (.cells #[.int .i64 0, .slice aa na ca] 27)) := (Upd.refl _ _).alloc _
  have hk0 : (w.alloc (.cells #[.int .i64 0, .slice aa na ca] 27)).cell? ⟨w.heap.size, 0, none⟩ = some (.int .i64 0) := by rw [World.cell?_alloc_new]; rfl
  go_enter Try.func54, Try.ntmps54
  go_wp2_with fail
  with_reducible refine (iIn_yes hna (hB.keep ub) (hm.keep0 ub) hA).mono ?_
  rintro e w1 ⟨p1, b1, c1, rfl, hy1, hp1, hb1, hu0⟩
  have hk1 := hu0.cell (p := ⟨w.heap.size, 0, none⟩) id hk0
  have hu1 : Upd0 w w1 := ub.trans hu0
  replace hp1 := Nat.le_trans ub.size hp1
  replace hb1 := Nat.le_trans ub.size hb1
  clear hu0 hk0 ub
  have hx1 := hx.keep0 hu1
  have hm1 := hm.keep0 hu1
  obtain ⟨q, bm, cm, hmn, hq, hbm⟩ := hm1.ex
  have hmp := hm.hp
  have hms := hm.hs
  have hmt := hm.lt
  have hlp := hx.hp
  have hlb := hx.hb
  have k1 := natAdd_any p b c n X p1 b1 c1 A mp q bm cm M w1 hx1 hy1 hmn (fun h => by omega) (by omega) (by omega) (by omega) (by omega)
  rw [redN_mod (by omega)] at k1
  replace k1 := Lib.hid k1
  go_wp2_with fail
  with_reducible refine k1.out.mono ?_
  rintro e w2 ⟨rfl, hx2, hu2⟩
  go_wp2_with fail
  go_ret
  exact ⟨rfl, b, c, hx2, .inl rfl, (hu1.mono (fun _ _ h => h.elim)).trans (hu2.mono (fun _ _ h => .inr h))⟩
set_option maxRecDepth 100000 in
set_option maxHeartbeats 1000000 in
theorem wa_sub {p b c n X s mp M na ca A : Nat} {aa : Option Addr} {w : World} (hx : NatAt w p b c n X) (hm : ModAt w s mp n M) (hX : X < M) (_hp : s ≤ p) (hb : s ≤ b) (hna : na ≤ 8 * n) (hB : Bs w aa na ca A) (hA : A < M) :
    Calls Try.prog 54 #[.pointer (some ⟨p, 0, none⟩), .agg #[.int .i64 1, .slice aa na ca], .pointer (some ⟨mp, 0, none⟩)] w (RetStep w p b n (some ((X + M - A) % M))) := by
  have ub : Upd0 w (w.alloc (.cells #[.int .i64 1, .slice aa na ca] 27)) := (Upd.refl _ _).alloc _
  have hk0 : (w.alloc (.cells #[.int .i64 1, .slice aa na ca] 27)).cell? ⟨w.heap.size, 0, none⟩ = some (.int .i64 1) := by rw [World.cell?_alloc_new]; rfl
  go_enter Try.func54, Try.ntmps54
  go_wp2_with fail
  with_reducible refine (iIn_yes hna (hB.keep ub) (hm.keep0 ub) hA).mono ?_
  rintro e w1 ⟨p1, b1, c1, rfl, hy1, hp1, hb1, hu0⟩
  have hk1 := hu0.cell (p := ⟨w.heap.size, 0, none⟩) id hk0
  have hu1 : Upd0 w w1 := ub.trans hu0
  replace hp1 := Nat.le_trans ub.size hp1
  replace hb1 := Nat.le_trans ub.size hb1
  clear hu0 hk0 ub
  have hx1 := hx.keep0 hu1
  have hm1 := hm.keep0 hu1
  obtain ⟨q, bm, cm, hmn, hq, hbm⟩ := hm1.ex
  have hmp := hm.hp
  have hms := hm.hs
  have hmt := hm.lt
  have hlp := hx.hp
  have hlb := hx.hb
  have k1 := natSub_any p b c n X p1 b1 c1 A mp q bm cm M w1 hx1 hy1 hmn (fun h => by omega) (by omega) (by omega) (by omega) (by omega)
  rw [mdN_mod (by omega) (by omega)] at k1
  replace k1 := Lib.hid k1
  go_wp2_with fail
  with_reducible refine k1.out.mono ?_
  rintro e w2 ⟨rfl, hx2, hu2⟩
  go_wp2_with fail
  go_ret
  exact ⟨rfl, b, c, hx2, .inl rfl, (hu1.mono (fun _ _ h => h.elim)).trans (hu2.mono (fun _ _ h => .inr h))⟩
set_option maxRecDepth 100000 in
set_option maxHeartbeats 1000000 in
theorem wa_mul {p b c n X s mp M na ca A : Nat} {aa : Option Addr} {w : World} (hx : NatAt w p b c n X) (hm : ModAt w s mp n M) (hX : X < M) (hp : s ≤ p) (hb : s ≤ b) (hna : na ≤ 8 * n) (hB : Bs w aa na ca A) (hA : A < M) :
    Calls Try.prog 54 #[.pointer (some ⟨p, 0, none⟩), .agg #[.int .i64 2, .slice aa na ca], .pointer (some ⟨mp, 0, none⟩)] w (RetStep w p b n (some (X * A % M))) := by
  have ub : Upd0 w (w.alloc (.cells #[.int .i64 2, .slice aa na ca] 27)) := (Upd.refl _ _).alloc _
  have hk0 : (w.alloc (.cells #[.int .i64 2, .slice aa na ca] 27)).cell? ⟨w.heap.size, 0, none⟩ = some (.int .i64 2) := by rw [World.cell?_alloc_new]; rfl
  go_enter Try.func54, Try.ntmps54
  go_wp2_with fail
  with_reducible refine (iIn_yes hna (hB.keep ub) (hm.keep0 ub) hA).mono ?_
  rintro e w1 ⟨p1, b1, c1, rfl, hy1, hp1, hb1, hu0⟩
  have hk1 := hu0.cell (p := ⟨w.heap.size, 0, none⟩) id hk0
  have hu1 : Upd0 w w1 := ub.trans hu0
  replace hp1 := Nat.le_trans ub.size hp1
  replace hb1 := Nat.le_trans ub.size hb1
  clear hu0 hk0 ub
  have hx1 := hx.keep0 hu1
  have hm1 := hm.keep0 hu1
  obtain ⟨q, bm, cm, hmn, hq, hbm⟩ := hm1.ex
  have hmp := hm.hp
  have hms := hm.hs
  have hmt := hm.lt
  have hlp := hx.hp
  have hlb := hx.hb
  have k1 := natMul_any hx1 hy1 hm1 hX hA hp hb
  replace k1 := Lib.hid k1
  go_wp2_with fail
  with_reducible refine k1.out.mono ?_
  rintro e w2 ⟨rfl, b2, c2, hx2, hb2, hu2⟩
  have hz1 := hu1.size
  go_wp2_with fail
  go_ret
  exact ⟨rfl, b2, c2, hx2, by rcases hb2 with h | h; exact .inl h; exact .inr (Nat.le_trans hz1 h), (hu1.mono (fun _ _ h => h.elim)).trans hu2⟩
set_option maxRecDepth 100000 in
set_option maxHeartbeats 1000000 in
theorem wa_dbl {p b c n X s mp M na ca A : Nat} {aa : Option Addr} {w : World} (hx : NatAt w p b c n X) (hm : ModAt w s mp n M) (hX : X < M) (_hp : s ≤ p) (hb : s ≤ b) (hna : na ≤ 8 * n) (hB : Bs w aa na ca A) (hA : A < M) :
    Calls Try.prog 54 #[.pointer (some ⟨p, 0, none⟩), .agg #[.int .i64 3, .slice aa na ca], .pointer (some ⟨mp, 0, none⟩)] w (RetStep w p b n (some ((X + X) % M))) := by
  have ub : Upd0 w (w.alloc (.cells #[.int .i64 3, .slice aa na ca] 27)) := (Upd.refl _ _).alloc _
  have hk0 : (w.alloc (.cells #[.int .i64 3, .slice aa na ca] 27)).cell? ⟨w.heap.size, 0, none⟩ = some (.int .i64 3) := by rw [World.cell?_alloc_new]; rfl
  go_enter Try.func54, Try.ntmps54
  go_wp2_with fail
  with_reducible refine (iIn_yes hna (hB.keep ub) (hm.keep0 ub) hA).mono ?_
  rintro e w1 ⟨p1, b1, c1, rfl, hy1, hp1, hb1, hu0⟩
  have hk1 := hu0.cell (p := ⟨w.heap.size, 0, none⟩) id hk0
  have hu1 : Upd0 w w1 := ub.trans hu0
  replace hp1 := Nat.le_trans ub.size hp1
  replace hb1 := Nat.le_trans ub.size hb1
  clear hu0 hk0 ub
  have hx1 := hx.keep0 hu1
  have hm1 := hm.keep0 hu1
  obtain ⟨q, bm, cm, hmn, hq, hbm⟩ := hm1.ex
  have hmp := hm.hp
  have hms := hm.hs
  have hmt := hm.lt
  have hlp := hx.hp
  have hlb := hx.hb
  have k1 := natAdd_any p b c n X p b c X mp q bm cm M w1 hx1 hx1 hmn (fun _ => rfl) (by omega) (by omega) (by omega) (by omega)
  rw [redN_mod (by omega)] at k1
  replace k1 := Lib.hid k1
  go_wp2_with fail
  with_reducible refine k1.out.mono ?_
  rintro e w2 ⟨rfl, hx2, hu2⟩
  go_wp2_with fail
  go_ret
  exact ⟨rfl, b, c, hx2, .inl rfl, (hu1.mono (fun _ _ h => h.elim)).trans (hu2.mono (fun _ _ h => .inr h))⟩
set_option maxRecDepth 100000 in
set_option maxHeartbeats 1000000 in
theorem wa_sqr {p b c n X s mp M na ca A : Nat} {aa : Option Addr} {w : World} (hx : NatAt w p b c n X) (hm : ModAt w s mp n M) (hX : X < M) (hp : s ≤ p) (hb : s ≤ b) (hna : na ≤ 8 * n) (hB : Bs w aa na ca A) (hA : A < M) :
    Calls Try.prog 54 #[.pointer (some ⟨p, 0, none⟩), .agg #[.int .i64 4, .slice aa na ca], .pointer (some ⟨mp, 0, none⟩)] w (RetStep w p b n (some (X * X % M))) := by
  have ub : Upd0 w (w.alloc (.cells #[.int .i64 4, .slice aa na ca] 27)) := (Upd.refl _ _).alloc _
  have hk0 : (w.alloc (.cells #[.int .i64 4, .slice aa na ca] 27)).cell? ⟨w.heap.size, 0, none⟩ = some (.int .i64 4) := by rw [World.cell?_alloc_new]; rfl
  go_enter Try.func54, Try.ntmps54
  go_wp2_with fail
  with_reducible refine (iIn_yes hna (hB.keep ub) (hm.keep0 ub) hA).mono ?_
  rintro e w1 ⟨p1, b1, c1, rfl, hy1, hp1, hb1, hu0⟩
  have hk1 := hu0.cell (p := ⟨w.heap.size, 0, none⟩) id hk0
  have hu1 : Upd0 w w1 := ub.trans hu0
  replace hp1 := Nat.le_trans ub.size hp1
  replace hb1 := Nat.le_trans ub.size hb1
  clear hu0 hk0 ub
  have hx1 := hx.keep0 hu1
  have hm1 := hm.keep0 hu1
  obtain ⟨q, bm, cm, hmn, hq, hbm⟩ := hm1.ex
  have hmp := hm.hp
  have hms := hm.hs
  have hmt := hm.lt
  have hlp := hx.hp
  have hlb := hx.hb
  have k1 := natMul_any hx1 hx1 hm1 hX hX hp hb
  replace k1 := Lib.hid k1
  go_wp2_with fail
  with_reducible refine k1.out.mono ?_
  rintro e w2 ⟨rfl, b2, c2, hx2, hb2, hu2⟩
  have hz1 := hu1.size
  go_wp2_with fail
  go_ret
  exact ⟨rfl, b2, c2, hx2, by rcases hb2 with h | h; exact .inl h; exact .inr (Nat.le_trans hz1 h), (hu1.mono (fun _ _ h => h.elim)).trans hu2⟩
set_option maxRecDepth 100000 in
set_option maxHeartbeats 1000000 in
theorem wa_one {p b c n X s mp M na ca A : Nat} {aa : Option Addr} {w : World} (hx : NatAt w p b c n X) (hm : ModAt w s mp n M) (hX : X < M) (_hp : s ≤ p) (hb : s ≤ b) (hna : na ≤ 8 * n) (hB : Bs w aa na ca A) (hA : A < M) :
    Calls Try.prog 54 #[.pointer (some ⟨p, 0, none⟩), .agg #[.int .i64 6, .slice aa na ca], .pointer (some ⟨mp, 0, none⟩)] w (RetStep w p b n (some ((X + M - 1) % M))) := by
  have ub : Upd0 w (w.alloc (.cells #[.int .i64 6, .slice aa na ca] 27)) := (Upd.refl _ _).alloc _
  have hk0 : (w.alloc (.cells #[.int .i64 6, .slice aa na ca] 27)).cell? ⟨w.heap.size, 0, none⟩ = some (.int .i64 6) := by rw [World.cell?_alloc_new]; rfl
  go_enter Try.func54, Try.ntmps54
  go_wp2_with fail
  with_reducible refine (iIn_yes hna (hB.keep ub) (hm.keep0 ub) hA).mono ?_
  rintro e w1 ⟨p1, b1, c1, rfl, hy1, hp1, hb1, hu0⟩
  have hk1 := hu0.cell (p := ⟨w.heap.size, 0, none⟩) id hk0
  have hu1 : Upd0 w w1 := ub.trans hu0
  replace hp1 := Nat.le_trans ub.size hp1
  replace hb1 := Nat.le_trans ub.size hb1
  clear hu0 hk0 ub
  have hx1 := hx.keep0 hu1
  have hm1 := hm.keep0 hu1
  obtain ⟨q, bm, cm, hmn, hq, hbm⟩ := hm1.ex
  have hmp := hm.hp
  have hms := hm.hs
  have hmt := hm.lt
  have hlp := hx.hp
  have hlb := hx.hb
  have k1 := subOne_any hx1 hm1 _hp hb
  rw [mdN_mod hX (by omega)] at k1
  replace k1 := Lib.hid k1
  go_wp2_with fail
  with_reducible refine k1.out.mono ?_
  rintro e w2 ⟨rfl, hx2, hu2⟩
  go_wp2_with fail
  go_ret
  exact ⟨rfl, b, c, hx2, .inl rfl, (hu1.mono (fun _ _ h => h.elim)).trans (hu2.mono (fun _ _ h => .inr h))⟩
set_option maxRecDepth 100000 in
set_option maxHeartbeats 1000000 in
theorem wa_can {p b c n X s mp M na ca A : Nat} {aa : Option Addr} {w : World} (hx : NatAt w p b c n X) (hm : ModAt w s mp n M) (hX : X < M) (_hp : s ≤ p) (hb : s ≤ b) (hna : na ≤ 8 * n) (hB : Bs w aa na ca A) (hA : A < M) :
    Calls Try.prog 54 #[.pointer (some ⟨p, 0, none⟩), .agg #[.int .i64 9, .slice aa na ca], .pointer (some ⟨mp, 0, none⟩)] w (RetStep w p b n (some ((X + M - X) % M))) := by
  have ub : Upd0 w (w.alloc (.cells #[.int .i64 9, .slice aa na ca] 27)) := (Upd.refl _ _).alloc _
  have hk0 : (w.alloc (.cells #[.int .i64 9, .slice aa na ca] 27)).cell? ⟨w.heap.size, 0, none⟩ = some (.int .i64 9) := by rw [World.cell?_alloc_new]; rfl
  go_enter Try.func54, Try.ntmps54
  go_wp2_with fail
  with_reducible refine (iIn_yes hna (hB.keep ub) (hm.keep0 ub) hA).mono ?_
  rintro e w1 ⟨p1, b1, c1, rfl, hy1, hp1, hb1, hu0⟩
  have hk1 := hu0.cell (p := ⟨w.heap.size, 0, none⟩) id hk0
  have hu1 : Upd0 w w1 := ub.trans hu0
  replace hp1 := Nat.le_trans ub.size hp1
  replace hb1 := Nat.le_trans ub.size hb1
  clear hu0 hk0 ub
  have hx1 := hx.keep0 hu1
  have hm1 := hm.keep0 hu1
  obtain ⟨q, bm, cm, hmn, hq, hbm⟩ := hm1.ex
  have hmp := hm.hp
  have hms := hm.hs
  have hmt := hm.lt
  have hlp := hx.hp
  have hlb := hx.hb
  have k1 := natSub_any p b c n X p b c X mp q bm cm M w1 hx1 hx1 hmn (fun _ => rfl) (by omega) (by omega) (by omega) (by omega)
  rw [mdN_mod (by omega) (by omega)] at k1
  replace k1 := Lib.hid k1
  go_wp2_with fail
  with_reducible refine k1.out.mono ?_
  rintro e w2 ⟨rfl, hx2, hu2⟩
  go_wp2_with fail
  go_ret
  exact ⟨rfl, b, c, hx2, .inl rfl, (hu1.mono (fun _ _ h => h.elim)).trans (hu2.mono (fun _ _ h => .inr h))⟩
set_option maxRecDepth 100000 in
set_option maxHeartbeats 1000000 in
theorem wa_inv {p b c n X s mp M na ca A : Nat} {aa : Option Addr} {w : World} (hx : NatAt w p b c n X) (hm : ModAt w s mp n M) (hX : X < M) (_hp : s ≤ p) (_hb : s ≤ b) (hna : na ≤ 8 * n) (hB : Bs w aa na ca A) (hA : A < M) :
    Calls Try.prog 54 #[.pointer (some ⟨p, 0, none⟩), .agg #[.int .i64 7, .slice aa na ca], .pointer (some ⟨mp, 0, none⟩)] w (RetStep w p b n (if Nat.gcd X M = 1 then some (invN X M) else none)) := by
  by_cases hg : Nat.gcd X M = 1
  · rw [if_pos hg]
    have HG := Lib.hid hg
    clear hg
    have ub : Upd0 w (w.alloc (.cells #[.int .i64 7, .slice aa na ca] 27)) := (Upd.refl _ _).alloc _
    have hk0 : (w.alloc (.cells #[.int .i64 7, .slice aa na ca] 27)).cell? ⟨w.heap.size, 0, none⟩ = some (.int .i64 7) := by rw [World.cell?_alloc_new]; rfl
    go_enter Try.func54, Try.ntmps54
    go_wp2_with fail
    with_reducible refine (iIn_yes hna (hB.keep ub) (hm.keep0 ub) hA).mono ?_
    rintro e w1 ⟨p1, b1, c1, rfl, hy1, hp1, hb1, hu0⟩
    have hk1 := hu0.cell (p := ⟨w.heap.size, 0, none⟩) id hk0
    have hu1 : Upd0 w w1 := ub.trans hu0
    replace hp1 := Nat.le_trans ub.size hp1
    replace hb1 := Nat.le_trans ub.size hb1
    clear hu0 hk0 ub
    have hx1 := hx.keep0 hu1
    have hm1 := hm.keep0 hu1
    obtain ⟨q, bm, cm, hmn, hq, hbm⟩ := hm1.ex
    have hmp := hm.hp
    have hms := hm.hs
    have hmt := hm.lt
    have hlp := hx.hp
    have hlb := hx.hb
    have k1 := Lib.hid (natInv_yes hx1 hx1 hm1 hX HG.out)
    go_wp2_with fail
    with_reducible refine k1.out.mono ?_
    rintro e w2 ⟨rfl, b2, c2, hx2, hb2, hu2⟩
    have hz1 := hu1.size
    go_wp2_with fail
    go_ret
    exact ⟨rfl, b2, c2, hx2, by rcases hb2 with h | h; exact .inl h; exact .inr (Nat.le_trans hz1 h), (hu1.mono (fun _ _ h => h.elim)).trans hu2⟩
  · rw [if_neg hg]
    have HG := Lib.hid hg
    clear hg
    have ub : Upd0 w (w.alloc (.cells #[.int .i64 7, .slice aa na ca] 27)) := (Upd.refl _ _).alloc _
    have hk0 : (w.alloc (.cells #[.int .i64 7, .slice aa na ca] 27)).cell? ⟨w.heap.size, 0, none⟩ = some (.int .i64 7) := by rw [World.cell?_alloc_new]; rfl
    go_enter Try.func54, Try.ntmps54
    go_wp2_with fail
    with_reducible refine (iIn_yes hna (hB.keep ub) (hm.keep0 ub) hA).mono ?_
    rintro e w1 ⟨p1, b1, c1, rfl, hy1, hp1, hb1, hu0⟩
    have hk1 := hu0.cell (p := ⟨w.heap.size, 0, none⟩) id hk0
    have hu1 : Upd0 w w1 := ub.trans hu0
    replace hp1 := Nat.le_trans ub.size hp1
    replace hb1 := Nat.le_trans ub.size hb1
    clear hu0 hk0 ub
    have hx1 := hx.keep0 hu1
    have hm1 := hm.keep0 hu1
    obtain ⟨q, bm, cm, hmn, hq, hbm⟩ := hm1.ex
    have hmp := hm.hp
    have hms := hm.hs
    have hmt := hm.lt
    have hlp := hx.hp
    have hlb := hx.hb
    have k1 := Lib.hid (natInv_no (p := p) hx1 hm1 HG.out)
    go_wp2_with fail
    with_reducible refine k1.out.mono ?_
    rintro e w2 ⟨rfl, hu2⟩
    go_wp2_with fail
    go_ret
    exact ⟨rfl, (hu1.trans hu2).mono (fun _ _ h => h.elim)⟩
set_option maxRecDepth 100000 in
set_option maxHeartbeats 1000000 in
theorem wa_other {p b c n X s mp M na ca A : Nat} {z : Int} {aa : Option Addr} {w : World} (hx : NatAt w p b c n X) (hm : ModAt w s mp n M) (hna : na ≤ 8 * n) (hB : Bs w aa na ca A) (hA : A < M) (hz : z ≠ 0 ∧ z ≠ 1 ∧ z ≠ 2 ∧ z ≠ 3 ∧ z ≠ 4 ∧ z ≠ 6 ∧ z ≠ 7 ∧ z ≠ 8 ∧ z ≠ 9) :
    Calls Try.prog 54 #[.pointer (some ⟨p, 0, none⟩), .agg #[.int .i64 z, .slice aa na ca], .pointer (some ⟨mp, 0, none⟩)] w (RetStep w p b n none) := by
  obtain ⟨z0, z1, z2, z3, z4, z6, z7, z8, z9⟩ := hz
  have f0 : (z == 0) = false := beq_eq_false_iff_ne.2 z0
  have f1 : (z == 1) = false := beq_eq_false_iff_ne.2 z1
  have f2 : (z == 2) = false := beq_eq_false_iff_ne.2 z2
  have f3 : (z == 3) = false := beq_eq_false_iff_ne.2 z3
  have f4 : (z == 4) = false := beq_eq_false_iff_ne.2 z4
  have f6 : (z == 6) = false := beq_eq_false_iff_ne.2 z6
  have f7 : (z == 7) = false := beq_eq_false_iff_ne.2 z7
  have f8 : (z == 8) = false := beq_eq_false_iff_ne.2 z8
  have f9 : (z == 9) = false := beq_eq_false_iff_ne.2 z9
  clear z0 z1 z2 z3 z4 z6 z7 z8 z9
  have ub : Upd0 w (w.alloc (.cells #[.int .i64 z, .slice aa na ca] 27)) := (Upd.refl _ _).alloc _
  have hk0 : (w.alloc (.cells #[.int .i64 z, .slice aa na ca] 27)).cell? ⟨w.heap.size, 0, none⟩ = some (.int .i64 z) := by rw [World.cell?_alloc_new]; rfl
  go_enter Try.func54, Try.ntmps54
  go_wp2_with fail
  with_reducible refine (iIn_yes hna (hB.keep ub) (hm.keep0 ub) hA).mono ?_
  rintro e w1 ⟨p1, b1, c1, rfl, hy1, hp1, hb1, hu0⟩
  have hk1 := hu0.cell (p := ⟨w.heap.size, 0, none⟩) id hk0
  have hu1 : Upd0 w w1 := ub.trans hu0
  replace hp1 := Nat.le_trans ub.size hp1
  replace hb1 := Nat.le_trans ub.size hb1
  clear hu0 hk0 ub
  have hx1 := hx.keep0 hu1
  have hm1 := hm.keep0 hu1
  obtain ⟨q, bm, cm, hmn, hq, hbm⟩ := hm1.ex
  have hmp := hm.hp
  have hms := hm.hs
  have hmt := hm.lt
  have hlp := hx.hp
  have hlb := hx.hb
  go_wp2_with fail
  go_ret
  exact ⟨rfl, hu1.mono (fun _ _ h => h.elim)⟩
set_option maxRecDepth 100000 in
set_option maxHeartbeats 1000000 in
theorem wa_no {p b c n X s mp M na ca A : Nat} {z : Int} {aa : Option Addr} {w : World} (_hx : NatAt w p b c n X) (hm : ModAt w s mp n M) (hna : na ≤ 8 * n) (hB : Bs w aa na ca A) (hA : ¬ A < M) :
    Calls Try.prog 54 #[.pointer (some ⟨p, 0, none⟩), .agg #[.int .i64 z, .slice aa na ca], .pointer (some ⟨mp, 0, none⟩)] w (RetStep w p b n none) := by
  have ub : Upd0 w (w.alloc (.cells #[.int .i64 z, .slice aa na ca] 27)) := (Upd.refl _ _).alloc _
  go_enter Try.func54, Try.ntmps54
  go_wp2_with fail
  with_reducible refine (iIn_no hna (hB.keep ub) (hm.keep0 ub) hA).mono ?_
  rintro e w1 ⟨rfl, hu0⟩
  have hu1 : Upd0 w w1 := ub.trans hu0
  go_wp2_with fail
  go_ret
  exact ⟨rfl, hu1.mono (fun _ _ h => h.elim)⟩
/-- withArg, but for kind 8. -/
theorem withArg_any {p b c n X s mp M na ca A : Nat} {z : Int} {aa : Option Addr} {w : World} (hx : NatAt w p b c n X) (hm : ModAt w s mp n M) (hX : X < M) (hp : s ≤ p) (hb : s ≤ b) (hna : na ≤ 8 * n) (hB : Bs w aa na ca A) (hz : z ≠ 8) :
    Calls Try.prog 54 #[.pointer (some ⟨p, 0, none⟩), .agg #[.int .i64 z, .slice aa na ca], .pointer (some ⟨mp, 0, none⟩)] w (RetStep w p b n (stpN M X A z)) := by
  unfold stpN
  by_cases hA : A < M
  · rw [if_pos hA]
    by_cases h0 : z = 0
    · subst h0; exact wa_add hx hm hX hp hb hna hB hA
    · rw [if_neg h0]
      by_cases h1 : z = 1
      · subst h1; exact wa_sub hx hm hX hp hb hna hB hA
      · rw [if_neg h1]
        by_cases h2 : z = 2
        · subst h2; exact wa_mul hx hm hX hp hb hna hB hA
        · rw [if_neg h2]
          by_cases h3 : z = 3
          · subst h3; exact wa_dbl hx hm hX hp hb hna hB hA
          · rw [if_neg h3]
            by_cases h4 : z = 4
            · subst h4; exact wa_sqr hx hm hX hp hb hna hB hA
            · rw [if_neg h4]
              by_cases h6 : z = 6
              · subst h6; exact wa_one hx hm hX hp hb hna hB hA
              · rw [if_neg h6]
                by_cases h7 : z = 7
                · subst h7; exact wa_inv hx hm hX hp hb hna hB hA
                · rw [if_neg h7, if_neg hz]
                  by_cases h9 : z = 9
                  · subst h9; exact wa_can hx hm hX hp hb hna hB hA
                  · rw [if_neg h9]; exact wa_other hx hm hna hB hA ⟨h0, h1, h2, h3, h4, h6, h7, hz, h9⟩
  · rw [if_neg hA]; exact wa_no hx hm hna hB hA
end Go.Proofs.Ytpojonfopoobpaa
