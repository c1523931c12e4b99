/-
  Contracts: slices.Clone of bytes; impl.trimmed; ..
-/
import Derived.Test.YtmbghmjllipbhaaSpecB
import Derived.Test.YtmbghmjllipbhaaLaws
import Derived.Lib.SliceRun
namespace Go.Proofs.Ytmbghmjllipbhaa
open Go.RowKit

theorem eql_nil_u8 (a : Option Addr) (n c n' c' : Nat) (w : World) : (binOp .eql 22 (.slice a n c) (.slice none n' c')).run Try.prog w = .ok (.bool a.isNone) w := Lib.run_eql_slice_nil w _ _ a n c n' c' Try.underlying22
theorem info_u8 : (Try.prog.info? 5).map (fun i => (i.zero, i.size, i.bytes)) = some (some (.int .u8 0), 1, 1) := by kernel_rfl
theorem info_uint : (Try.prog.info? 59).map (fun i => (i.zero, i.size, i.bytes)) = some (some (.int .u64 0), 1, 8) := by kernel_rfl
theorem info_int : (Try.prog.info? 3).map (fun i => (i.zero, i.size, i.bytes)) = some (some (.int .i64 0), 1, 8) := by kernel_rfl

set_option maxHeartbeats 400000 in
theorem clone_any (a : Option Addr) (n c : Nat) (f : Nat → Nat) (w : World) (hn : n ≤ 1048576) (hs : Sl .u8 w a n c f) :
    Calls Try.prog 69 #[.slice a n c] w (RetBytes w n f) := by
  cases a with
  | none =>
    obtain rfl := hs.nil rfl
    obtain rfl : n = 0 := by have := hs.le; omega
    have hq := eql_nil_u8 none 0 0 0 0
    go_enter Try.func69, Try.ntmps69
    go_wp2
    go_ret
    exact ⟨none, 0, rfl, .empty _ _ _, .refl _ _⟩
  | some ad =>
    have hq := eql_nil_u8 (some ad) n c 0 0
    go_enter Try.func69, Try.ntmps69
    go_wp2_with (at_builtin; refine wpList_append_ints rfl (.tmp 5) (.tmp 6) 22 rfl w.heap.size 5 .u8 1 Try.underlying22 info_u8 (some ⟨w.heap.size, 0, none⟩) 0 0 (fun _ => 0) rfl (by exact Grow.made .u8 _ w w.heap.size #[] 0 _ (Nat.le_refl _) (by simp [maxLen]) rfl) ad n c f rfl (by exact hs.rd.keep ((Upd.refl _ _).alloc _)) (by omega) (by omega) (by simp) ?_; intro a' c' w' hg hu)
    go_ret
    exact ⟨a', c', by simp, by
      have := hg.sl
      rw [Nat.zero_add] at this
      exact this.congr fun i hi => by simp, ((Upd.refl _ w).alloc _).then hu (fun i hi h => by simp [Value.ownBlock] at h; omega)⟩

theorem close_trim {f : Nat → Nat} {n k : Nat} {w w' : World} {e : Ending} (hf : ∀ i, i < n → f i < 256) (hk : k ≤ n) (h0 : ∀ i, i < k → f i = 0) (h1 : k < n → f k ≠ 0)
    (h : RetBytes w (n - k) (fun i => f (k + i)) e w') : RetBytes w (nb (be f n)) (fun i => dg 256 (be f n) (nb (be f n) - 1 - i)) e w' := by
  rw [nb_of_zeros hf hk h0 h1]
  obtain ⟨a, c, e, hs, hu⟩ := h
  refine ⟨a, c, e, hs.congr fun i hi => ?_, hu⟩
  rw [be_dg hf _ (by omega)]
  congr 1; omega

set_option maxHeartbeats 400000 in
theorem itrimmed_any (a : Option Addr) (n c : Nat) (f : Nat → Nat) (w : World) (hn : n ≤ 1048576) (hf : ∀ i, i < n → f i < 256) (hs : Sl .u8 w a n c f) :
    Calls Try.prog 125 #[.slice a n c] w (RetBytes w (nb (be f n)) (fun i => dg 256 (be f n) (nb (be f n) - 1 - i))) := by
  have hle := hs.le
  have HF := Lib.hid hf
  clear hf
  go_enter Try.func125, Try.ntmps125
  go_wp2
  go_loop [3] (fun i => ∃ k : Nat, k ≤ n ∧ i = .int .i64 k ∧ Hid (∀ i, i < k → f i = 0)) (fun i => n - (intOf i).toNat)
  case atStart => exact ⟨0, Nat.zero_le _, rfl, fun i hi => absurd hi (Nat.not_lt_zero i)⟩
  case round =>
    obtain ⟨k, hk, rfl, HZ⟩ := hrel
    by_cases hlt : k < n
    · obtain ⟨b, off, d, rfl, hcell, hd, HD⟩ := byte_cell hs.rd HF.out hlt
      by_cases hz : d = 0
      · subst hz
        go_wp2
        go_round
        case rel => exact ⟨k + 1, by omega, by go_num, fun i hi => by
          by_cases e : i = k
          · subst e; exact HD.out.symm
          · exact HZ.out i (by omega)⟩
        case measure => simp [intOf]; omega
      · have hz' : ((d : Int) == 0) = false := by simpa using hz
        have hkc : ¬ c = k := by omega
        have HS : Sl .u8 w (some ⟨b, off + k, none⟩) (n - k) (c - k) (fun i => f (k + i)) := ⟨by omega, hs.rd.drop (by omega), fun e => by cases e⟩
        have HQ := fun e w' => close_trim (w := w) (w' := w') (e := e) HF.out hk HZ.out (fun _ => by rw [← HD.out]; exact hz)
        have HQ := Lib.hid HQ
        clear HD hs
        go_wp2_with fail
        refine (clone_any _ _ _ _ _ (by omega) HS).mono ?_
        rintro e w' ⟨a', c', rfl, h1, h2⟩
        go_wp2_with fail
        go_ret
        exact HQ.out _ _ ⟨a', c', rfl, h1, h2⟩
    · obtain rfl : k = n := by omega
      have HQ := fun e w' => close_trim (w := w) (w' := w') (e := e) HF.out hk HZ.out (fun h => by omega)
      have HQ := Lib.hid HQ
      rw [Nat.sub_self] at HQ
      by_cases hkc : c = k
      · subst hkc
        have HS : Sl .u8 w a 0 0 (fun i => f (c + i)) := ⟨by omega, .nil _ _ _, fun _ => rfl⟩
        go_wp2_with fail
        refine (clone_any _ _ _ _ _ (by omega) HS).mono ?_
        rintro e w' ⟨a', c', rfl, h1, h2⟩
        go_wp2_with fail
        go_ret
        exact HQ.out _ _ ⟨a', c', rfl, h1, h2⟩
      · cases a with
        | none => exact absurd (hs.nil rfl) (by omega)
        | some ad =>
          have HS : Sl .u8 w (some (ad.add k)) 0 (c - k) (fun i => f (k + i)) := ⟨by omega, .nil _ _ _, fun e => by cases e⟩
          go_wp2_with fail
          refine (clone_any _ _ _ _ _ (by omega) HS).mono ?_
          rintro e w' ⟨a', c', rfl, h1, h2⟩
          go_wp2_with fail
          go_ret
          exact HQ.out _ _ ⟨a', c', rfl, h1, h2⟩
end Go.Proofs.Ytmbghmjllipbhaa
