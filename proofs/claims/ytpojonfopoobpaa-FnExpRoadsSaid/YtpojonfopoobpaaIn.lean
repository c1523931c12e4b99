/-
  Contracts: slices.Clone once more (its block is new), Nat.SetBytes, impl.in, within, both.
-/
import Derived.Test.YtpojonfopoobpaaByt
namespace Go.Proofs.Ytpojonfopoobpaa
open Go.RowKit

/-- Bytes in a new block are returned. -/
def RetNew (w : World) (n N : Nat) (e : Ending) (w' : World) : Prop :=
  ∃ a c, e = .returned (.slice a n c) ∧ Bs w' a n c N ∧ (∀ x off, a = some ⟨x, off, none⟩ → w.heap.size ≤ x ∧ x < w'.heap.size) ∧ Upd0 w w'
set_option maxHeartbeats 400000 in
theorem cloneN {a : Option Addr} {n c N : Nat} {w : World} (hn : n ≤ 1048576) (h : Bs w a n c N) :
    Calls Try.prog 57 #[.slice a n c] w (RetNew w n N) := by
  obtain ⟨f, hf, hs, rfl⟩ := h
  cases a with
  | none =>
    obtain rfl := hs.nil rfl
    obtain rfl : n = 0 := by have := hs.le; omega
    have hq := eql_nil_u8 none 0 0 0 0
    go_enter Try.func57, Try.ntmps57
    go_wp2
    go_ret
    exact ⟨none, 0, rfl, .emp _, fun _ _ e => (by cases e), .refl _ _⟩
  | some ad =>
    have hq := eql_nil_u8 (some ad) n c 0 0
    go_enter Try.func57, Try.ntmps57
    go_wp2_with (at_builtin; refine wpList_append_ints rfl (.tmp 5) (.tmp 6) 22 rfl w.heap.size 5 .u8 1 Try.underlying22 info_u8 (some ⟨w.heap.size, 0, none⟩) 0 0 (fun _ => 0) rfl (by exact Grow.made .u8 _ w w.heap.size #[] 0 _ (Nat.le_refl _) (by simp [maxLen]) rfl) ad n c f rfl (by exact hs.rd.keep ((Upd.refl _ _).alloc _)) (by omega) (by omega) (by simp) ?_; intro a' c' w' hg hu)
    go_ret
    exact ⟨a', c', by simp, ⟨f, hf, by
      have := hg.sl
      rw [Nat.zero_add] at this
      exact this.congr fun i hi => by simp, rfl⟩, fun x off e => by subst e; exact hg.block x rfl, ((Upd.refl _ w).alloc _).then hu (fun i hi h => by simp [Value.ownBlock] at h; omega)⟩

theorem Bs.keepS {S : Nat → Prop} {w w' : World} {a : Option Addr} {n c N : Nat} (h : Bs w a n c N) (hu : Upd S w w') (hS : ∀ x off, a = some ⟨x, off, none⟩ → ¬ S x) : Bs w' a n c N := by
  obtain ⟨f, hf, hs, hN⟩ := h
  refine ⟨f, hf, ⟨hs.le, ?_, hs.nil⟩, hN⟩
  rcases Nat.eq_zero_or_pos n with h0 | h0
  · subst h0; exact .nil _ _ _
  · obtain ⟨x, off, rfl, _⟩ := hs.rd.open h0
    exact hs.rd.keepS hu (hS x off rfl)

/-- SetBytes is refused. -/
def RetSetNo (w : World) (p b : Nat) (e : Ending) (w' : World) : Prop :=
  ∃ t x, e = .returned (.tuple #[.pointer none, .iface t x]) ∧ Upd (fun k => k = p ∨ k = b) w w'
/-- SetBytes sets. -/
def RetSetYes (w : World) (p b n X : Nat) (e : Ending) (w' : World) : Prop :=
  e = .returned (.tuple #[.pointer (some ⟨p, 0, none⟩), .nilIface]) ∧ Grown w p b n X w'
set_option maxRecDepth 100000 in
set_option maxHeartbeats 1000000 in
theorem natSetBytes_yes {p b c m X0 s mp n M : Nat} {a : Option Addr} {nx cx X : Nat} {w : World} (hx : NatAt w p b c m X0) (hm : ModAt w s mp n M) (hp : s ≤ p) (hb : s ≤ b) (hB : Bs w a nx cx X) (hnx : nx ≤ 8 * n) (hne : ∀ x off, a = some ⟨x, off, none⟩ → x ≠ b ∧ x ≠ p ∧ x < w.heap.size) (hX : X < M) :
    Calls Try.prog 128 #[.pointer (some ⟨p, 0, none⟩), .slice a nx cx, .pointer (some ⟨mp, 0, none⟩)] w (RetSetYes w p b n X) := by
  obtain ⟨q, bm, cm, hmn, hq, hbm⟩ := hm.ex
  have hmp := hm.hp
  have hms := hm.hs
  have HG : Hid (geN X M = 0) := by show _ = _; unfold geN; first | rw [if_pos (by omega)] | rw [if_neg (by omega)]
  clear hX
  go_enter Try.func128, Try.ntmps128
  go_wp2_with fail
  with_reducible refine (resetFor_any p b c m X0 mp q bm cm n M w hx hmn).mono ?_
  rintro e w1 ⟨rfl, b1, c1, hx1, hb1, hu1⟩
  have hsb1 : s ≤ b1 := by rcases hb1 with h | h <;> omega
  have hB1 := hB.keepS hu1 (fun x off h => by have := hne x off h; omega)
  obtain ⟨f, hf, hs1, HB⟩ := hB1
  have hne1 : 0 < nx → ∀ x off, a = some ⟨x, off, none⟩ → x ≠ b1 := fun _ x off h => by
    have := hne x off h
    rcases hb1 with h2 | h2 <;> omega
  have k2 := setBytes_any p b1 c1 n a nx cx f w1 hx1 hnx hf hs1 hne1
  rw [HB] at k2
  replace k2 := Lib.hid k2
  clear HB hf hs1 hne1
  go_wp2_with fail
  with_reducible refine k2.out.mono ?_
  rintro e w2 ⟨rfl, hx2, hu2⟩
  have hmn2 : MNat w2 mp q bm cm n M := (hmn.keep hu1 (by omega) (by omega) (by omega)).keep hu2 (by omega) (by omega) (by omega)
  have hu12 : Upd (fun k => k = p ∨ k = b) w w2 := hu1.then hu2 (fun i hi h => by rcases hb1 with h' | h' <;> omega)
  have k3 := cmpGeq_any p b1 c1 n X q bm cm M w2 hx2 hmn2.nat
  rw [HG.out] at k3
  replace k3 := Lib.hid k3
  have hc := hmn2.hm
  go_wp2_with fail
  with_reducible refine k3.out.mono ?_
  rintro e w3 ⟨rfl, kd, rfl⟩
  go_wp2_with fail
  go_ret2
  exact ⟨rfl, b1, c1, hx2.drewN kd, hb1, hu12.drewN kd⟩
set_option maxRecDepth 100000 in
set_option maxHeartbeats 1000000 in
theorem natSetBytes_no {p b c m X0 s mp n M : Nat} {a : Option Addr} {nx cx X : Nat} {w : World} (hx : NatAt w p b c m X0) (hm : ModAt w s mp n M) (hp : s ≤ p) (hb : s ≤ b) (hB : Bs w a nx cx X) (hnx : nx ≤ 8 * n) (hne : ∀ x off, a = some ⟨x, off, none⟩ → x ≠ b ∧ x ≠ p ∧ x < w.heap.size) (hX : ¬ X < M) :
    Calls Try.prog 128 #[.pointer (some ⟨p, 0, none⟩), .slice a nx cx, .pointer (some ⟨mp, 0, none⟩)] w (RetSetNo w p b) := by
  obtain ⟨q, bm, cm, hmn, hq, hbm⟩ := hm.ex
  have hmp := hm.hp
  have hms := hm.hs
  have HG : Hid (geN X M = 1) := by show _ = _; unfold geN; first | rw [if_pos (by omega)] | rw [if_neg (by omega)]
  clear hX
  go_enter Try.func128, Try.ntmps128
  go_wp2_with fail
  with_reducible refine (resetFor_any p b c m X0 mp q bm cm n M w hx hmn).mono ?_
  rintro e w1 ⟨rfl, b1, c1, hx1, hb1, hu1⟩
  have hsb1 : s ≤ b1 := by rcases hb1 with h | h <;> omega
  have hB1 := hB.keepS hu1 (fun x off h => by have := hne x off h; omega)
  obtain ⟨f, hf, hs1, HB⟩ := hB1
  have hne1 : 0 < nx → ∀ x off, a = some ⟨x, off, none⟩ → x ≠ b1 := fun _ x off h => by
    have := hne x off h
    rcases hb1 with h2 | h2 <;> omega
  have k2 := setBytes_any p b1 c1 n a nx cx f w1 hx1 hnx hf hs1 hne1
  rw [HB] at k2
  replace k2 := Lib.hid k2
  clear HB hf hs1 hne1
  go_wp2_with fail
  with_reducible refine k2.out.mono ?_
  rintro e w2 ⟨rfl, hx2, hu2⟩
  have hmn2 : MNat w2 mp q bm cm n M := (hmn.keep hu1 (by omega) (by omega) (by omega)).keep hu2 (by omega) (by omega) (by omega)
  have hu12 : Upd (fun k => k = p ∨ k = b) w w2 := hu1.then hu2 (fun i hi h => by rcases hb1 with h' | h' <;> omega)
  have k3 := cmpGeq_any p b1 c1 n X q bm cm M w2 hx2 hmn2.nat
  rw [HG.out] at k3
  replace k3 := Lib.hid k3
  have hc := hmn2.hm
  go_wp2_with fail
  with_reducible refine k3.out.mono ?_
  rintro e w3 ⟨rfl, kd, rfl⟩
  go_wp2_with fail
  with_reducible refine (errNew_any _ _).mono ?_
  rintro e w4 ⟨⟨t, x, rfl⟩, hu4⟩
  go_wp2_with fail
  go_ret2
  exact ⟨t, x, rfl, (hu12.drewN kd).then hu4 (fun _ _ h => h.elim)⟩
/-- A number in a modulus, and true, are returned. -/
def RetIn (w : World) (n X : Nat) (e : Ending) (w' : World) : Prop :=
  ∃ p b c, e = .returned (.tuple #[.pointer (some ⟨p, 0, none⟩), .bool true]) ∧ NatAt w' p b c n X ∧ w.heap.size ≤ p ∧ w.heap.size ≤ b ∧ Upd0 w w'
/-- No number is returned. -/
def RetInNo (w : World) (e : Ending) (w' : World) : Prop := e = .returned (.tuple #[.pointer none, .bool false]) ∧ Upd0 w w'
set_option maxRecDepth 100000 in
set_option maxHeartbeats 1000000 in
theorem iIn_yes {a : Option Addr} {nx cx X s mp n M : Nat} {w : World} (hnx : nx ≤ 8 * n) (hB : Bs w a nx cx X) (hm : ModAt w s mp n M) (hX : X < M) :
    Calls Try.prog 86 #[.slice a nx cx, .pointer (some ⟨mp, 0, none⟩)] w (RetIn w n X) := by
  have hn2 := hm.hn2
  have hms := hm.hs
  go_enter Try.func86, Try.ntmps86
  go_wp2_with fail
  with_reducible refine (newNat_any w).mono ?_
  rintro e w1 ⟨rfl, hx1, hu1, hz1⟩
  replace hz1 := Lib.hid hz1
  go_wp2_with fail
  with_reducible refine (cloneN (by omega) (hB.keep hu1)).mono ?_
  rintro e w2 ⟨a2, c2, rfl, hB2, hnw, hu2⟩
  have k3 := natSetBytes_yes (hx1.keep0 hu2) ((hm.keep0 hu1).keep0 hu2) (by omega) (by omega) hB2 hnx (fun x off h => by
    have h1 := hnw x off h
    have h2 := hz1.out
    omega) hX
  replace k3 := Lib.hid k3
  go_wp2_with fail
  with_reducible refine k3.out.mono ?_
  rintro e w3 ⟨rfl, b3, c3, hx3, hb3, hu3⟩
  have hu13 : Upd0 w w3 := (hu1.trans hu2).then hu3 (fun i hi h => by omega)
  have hz2 := hu2.size
  have hz3 := hz1.out
  go_wp2_with fail
  go_quiet (fail)
  rename_i nq
  go_wp2_with fail
  go_ret2
  exact ⟨_, b3, c3, rfl, hx3.drewN nq, by omega, by rcases hb3 with h | h <;> omega, hu13.drewN nq⟩
set_option maxRecDepth 100000 in
set_option maxHeartbeats 1000000 in
theorem iIn_no {a : Option Addr} {nx cx X s mp n M : Nat} {w : World} (hnx : nx ≤ 8 * n) (hB : Bs w a nx cx X) (hm : ModAt w s mp n M) (hX : ¬ X < M) :
    Calls Try.prog 86 #[.slice a nx cx, .pointer (some ⟨mp, 0, none⟩)] w (RetInNo w) := by
  have hn2 := hm.hn2
  have hms := hm.hs
  go_enter Try.func86, Try.ntmps86
  go_wp2_with fail
  with_reducible refine (newNat_any w).mono ?_
  rintro e w1 ⟨rfl, hx1, hu1, hz1⟩
  replace hz1 := Lib.hid hz1
  go_wp2_with fail
  with_reducible refine (cloneN (by omega) (hB.keep hu1)).mono ?_
  rintro e w2 ⟨a2, c2, rfl, hB2, hnw, hu2⟩
  have k3 := natSetBytes_no (hx1.keep0 hu2) ((hm.keep0 hu1).keep0 hu2) (by omega) (by omega) hB2 hnx (fun x off h => by
    have h1 := hnw x off h
    have h2 := hz1.out
    omega) hX
  replace k3 := Lib.hid k3
  go_wp2_with fail
  with_reducible refine k3.out.mono ?_
  rintro e w3 ⟨t, x, rfl, hu3⟩
  have hu13 : Upd0 w w3 := (hu1.trans hu2).then hu3 (fun i hi h => by omega)
  have hz2 := hu2.size
  have hz3 := hz1.out
  go_wp2_with fail
  go_quiet (fail)
  rename_i nq
  go_wp2_with fail
  go_ret2
  exact ⟨rfl, hu13.drewN nq⟩
theorem nb_le_limbs (M : Nat) : nb M ≤ 8 * nl M := by unfold nb nl; omega
/-- A number, its modulus, and true. -/
def RetWithin (w : World) (X M : Nat) (e : Ending) (w' : World) : Prop :=
  ∃ p b c mp s, e = .returned (.tuple #[.pointer (some ⟨p, 0, none⟩), .pointer (some ⟨mp, 0, none⟩), .bool true]) ∧ NatAt w' p b c (nl M) X ∧ ModAt w' s mp (nl M) M ∧ s ≤ p ∧ s ≤ b ∧ w.heap.size ≤ s ∧ Upd0 w w'
/-- Within: false. -/
def RetWithin0 (w : World) (e : Ending) (w' : World) : Prop :=
  ∃ x y, e = .returned (.tuple #[x, y, .bool false]) ∧ Upd0 w w'
set_option maxRecDepth 100000 in
set_option maxHeartbeats 1000000 in
theorem iWithin_yes {ax am : Option Addr} {nx cx nm cm X M : Nat} {w : World} (hnx : nx ≤ nb M) (hnm : nm ≤ 100000) (hx : Bs w ax nx cx X) (hm : Bs w am nm cm M) (h1 : 1 < M) (h2 : X < M) :
    Calls Try.prog 53 #[.slice ax nx cx, .slice am nm cm] w (RetWithin w X M) := by
  have hl := nb_le_limbs M
  go_enter Try.func53, Try.ntmps53
  go_wp2_with fail
  with_reducible refine (iModulus_yes hnm hm h1).mono ?_
  rintro e w1 ⟨mp, rfl, hmod, hu1⟩
  go_wp2_with fail
  with_reducible refine (iIn_yes (by omega) (hx.keep hu1) hmod h2).mono ?_
  rintro e w2 ⟨p, b, c, rfl, hx2, hp, hb, hu2⟩
  go_wp2_with fail
  go_ret3
  exact ⟨p, b, c, mp, w1.heap.size, rfl, hx2, hmod.keep0 hu2, hp, hb, hu1.size, hu1.trans hu2⟩
set_option maxRecDepth 100000 in
set_option maxHeartbeats 1000000 in
theorem iWithin_no {ax am : Option Addr} {nx cx nm cm X M : Nat} {w : World} (hnx : 1 < M → nx ≤ nb M) (hnm : nm ≤ 100000) (hx : Bs w ax nx cx X) (hm : Bs w am nm cm M) (h : ¬ (1 < M ∧ X < M)) :
    Calls Try.prog 53 #[.slice ax nx cx, .slice am nm cm] w (RetWithin0 w) := by
  have hl := nb_le_limbs M
  by_cases h1 : 1 < M
  · have h2 : ¬ X < M := by omega
    replace hnx := hnx h1
    go_enter Try.func53, Try.ntmps53
    go_wp2_with fail
    with_reducible refine (iModulus_yes hnm hm h1).mono ?_
    rintro e w1 ⟨mp, rfl, hmod, hu1⟩
    go_wp2_with fail
    with_reducible refine (iIn_no (by omega) (hx.keep hu1) hmod h2).mono ?_
    rintro e w2 ⟨rfl, hu2⟩
    go_wp2_with fail
    go_ret3
    exact ⟨_, _, rfl, hu1.trans hu2⟩
  · go_enter Try.func53, Try.ntmps53
    go_wp2_with fail
    with_reducible refine (iModulus_no hnm hm h1).mono ?_
    rintro e w1 ⟨rfl, hu1⟩
    go_wp2_with fail
    go_ret3
    exact ⟨_, _, rfl, hu1⟩
/-- Two numbers, their modulus, and true. -/
def RetBothI (w : World) (X Y M : Nat) (e : Ending) (w' : World) : Prop :=
  ∃ p b c p2 b2 c2 mp s, e = .returned (.tuple #[.pointer (some ⟨p, 0, none⟩), .pointer (some ⟨p2, 0, none⟩), .pointer (some ⟨mp, 0, none⟩), .bool true]) ∧ NatAt w' p b c (nl M) X ∧ NatAt w' p2 b2 c2 (nl M) Y ∧ ModAt w' s mp (nl M) M ∧ s ≤ p ∧ s ≤ b ∧ s ≤ p2 ∧ s ≤ b2 ∧ (p2 ≠ p ∧ p2 ≠ b ∧ b2 ≠ p ∧ b2 ≠ b) ∧ w.heap.size ≤ s ∧ Upd0 w w'
/-- Both: false. -/
def RetBothI0 (w : World) (e : Ending) (w' : World) : Prop :=
  ∃ x y z, e = .returned (.tuple #[x, y, z, .bool false]) ∧ Upd0 w w'
set_option maxRecDepth 100000 in
set_option maxHeartbeats 1000000 in
theorem iBoth_yes {ax ay am : Option Addr} {nx cx ny cy nm cm X Y M : Nat} {w : World} (hnx : nx ≤ nb M) (hny : ny ≤ nb M) (hnm : nm ≤ 100000) (hx : Bs w ax nx cx X) (hy : Bs w ay ny cy Y) (hm : Bs w am nm cm M) (h1 : 1 < M) (h2 : X < M) (h3 : Y < M) :
    Calls Try.prog 73 #[.slice ax nx cx, .slice ay ny cy, .slice am nm cm] w (RetBothI w X Y M) := by
  have hl := nb_le_limbs M
  go_enter Try.func73, Try.ntmps73
  go_wp2_with fail
  with_reducible refine (iWithin_yes hnx hnm hx hm h1 h2).mono ?_
  rintro e w1 ⟨p, b, c, mp, s, rfl, hx1, hmod, hsp, hsb, hws, hu1⟩
  go_wp2_with fail
  with_reducible refine (iIn_yes (by omega) (hy.keep hu1) hmod h3).mono ?_
  rintro e w2 ⟨p2, b2, c2, rfl, hx2, hp2, hb2, hu2⟩
  have hl1 := hx1.hp
  have hl2 := hx1.hb
  have hms := hmod.hs
  go_wp2_with fail
  exact bodyPost_ret (v := .tuple #[.pointer (some ⟨p, 0, none⟩), .pointer (some ⟨p2, 0, none⟩), .pointer (some ⟨mp, 0, none⟩), .bool true]) (by simp [results, Try.results73, go_sem]) rfl ⟨p, b, c, p2, b2, c2, mp, s, rfl, hx1.keep0 hu2, hx2, hmod.keep0 hu2, hsp, hsb, by omega, by omega, by omega, hws, hu1.trans hu2⟩
set_option maxRecDepth 100000 in
set_option maxHeartbeats 1000000 in
theorem iBoth_no {ax ay am : Option Addr} {nx cx ny cy nm cm X Y M : Nat} {w : World} (hnx : 1 < M → nx ≤ nb M) (hny : 1 < M → ny ≤ nb M) (hnm : nm ≤ 100000) (hx : Bs w ax nx cx X) (hy : Bs w ay ny cy Y) (hm : Bs w am nm cm M) (h : ¬ (1 < M ∧ X < M ∧ Y < M)) :
    Calls Try.prog 73 #[.slice ax nx cx, .slice ay ny cy, .slice am nm cm] w (RetBothI0 w) := by
  have hl := nb_le_limbs M
  by_cases h12 : 1 < M ∧ X < M
  · obtain ⟨h1, h2⟩ := h12
    have h3 : ¬ Y < M := by omega
    replace hnx := hnx h1
    replace hny := hny h1
    go_enter Try.func73, Try.ntmps73
    go_wp2_with fail
    with_reducible refine (iWithin_yes hnx hnm hx hm h1 h2).mono ?_
    rintro e w1 ⟨p, b, c, mp, s, rfl, hx1, hmod, hsp, hsb, hws, hu1⟩
    go_wp2_with fail
    with_reducible refine (iIn_no (by omega) (hy.keep hu1) hmod h3).mono ?_
    rintro e w2 ⟨rfl, hu2⟩
    go_wp2_with fail
    exact bodyPost_ret (v := .tuple #[.pointer (some ⟨p, 0, none⟩), .pointer none, .pointer (some ⟨mp, 0, none⟩), .bool false]) (by simp [results, Try.results73, go_sem]) rfl ⟨_, _, _, rfl, hu1.trans hu2⟩
  · go_enter Try.func73, Try.ntmps73
    go_wp2_with fail
    with_reducible refine (iWithin_no hnx hnm hx hm h12).mono ?_
    rintro e w1 ⟨x, y, rfl, hu1⟩
    go_wp2_with fail
    exact bodyPost_ret (v := .tuple #[.pointer none, .pointer none, .pointer none, .bool false]) (by simp [results, Try.results73, go_sem]) rfl ⟨_, _, _, rfl, hu1⟩
end Go.Proofs.Ytpojonfopoobpaa
