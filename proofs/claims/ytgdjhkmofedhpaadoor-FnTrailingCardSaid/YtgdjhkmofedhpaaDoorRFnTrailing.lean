/-
  Proved: Without its zeros below a number is odd; a byte 0 behind it gives 8 zeros more. For every input: the call returns true, and the argument reads behind the call as it read before; the library's tables are as the program's text lays them.
-/
import Derived.Test.YtgdjhkmofedhpaaDoorTie
import Derived.Test.YtgdjhkmofedhpaaDoorCards
import Derived.Test.YtgdjhkmofedhpaaDoorLwTz
import Derived.WalkKit
import Derived.ProofKit
import Derived.OpenShut
import Derived.ShutString
import Derived.ChangeOld
import Derived.Below
import Derived.LaidMore
import Derived.Lay
import Derived.Lib.LaidTab
import Derived.SevenTiedAt
import Derived.Stop.Joined
namespace Go.Proofs.YtgdjhkmofedhpaaDoor.fnTrailing
open Go.ChangeShapes Go.WideShapes Go.ChangeAt Go.RowKit
set_option linter.unusedVariables false

theorem own : ownKnob Tryd.prog.godebug = none := by kernel_rfl
theorem laidOut : laidOutB Tryd.prog = true := by kernel_rfl

/-- What the walk is told of a slice of integers that came in. -/
def IsRow (k : IntKind) (w : World) (a : Option Addr) (len cap : Nat) (zs : List Int) : Prop :=
  (a = none ∧ len = 0 ∧ cap = 0 ∧ zs = []) ∨
  ∃ x, a = some x ∧ len ≤ cap ∧ cap ≤ maxLen ∧ zs.length = cap ∧ (∀ i, i < zs.length → w.cell? (x.add i) = some (.int k (zs.getD i 0))) ∧ ∀ n ∈ zs, (Lit.int k n).wf = true

/-- The table, out of the row's condition. -/
theorem tab {W : World} (h : laidMetH Tryd.prog Rows.fnTrailingRow.laid W) : TabAt W := by
  rw [MakeChecks.laidMetH_plain _ _ _ (by kernel_rfl)] at h
  obtain ⟨ps, ⟨_, _, _, _, _, _, _, _, _, _, ⟨g, t, cs, fuel, p, q, hg, ht, hv, hd, _, _⟩, _⟩, _⟩ := h
  obtain rfl := Option.some.inj ((show Tryd.prog.globalNamed "math/bits.deBruijn64tab" = some 1 by kernel_rfl).symm.trans hg)
  obtain rfl := Option.some.inj ((show (Tryd.prog.globals[1]?).map (·.type) = some 57 by kernel_rfl).symm.trans ht)
  have e := Lib.cells_of_tab (k := .u8) (zs := Lib.deBruijn64tab.map fun n : Nat => (n : Int)) Tryd.underlying57 Tryd.underlying5 (by kernel_rfl) (by kernel_rfl) hd
  have hl : Lib.deBruijn64tab.length = 64 := by decide
  intro j hj
  rw [World.var?_cell hg hv j]
  have e2 : cs.toList[j]? = some (.int .u8 (Lib.deBruijn64tab.getD j 0 : Nat)) := by
    rw [e, List.getElem?_map, List.getElem?_map, List.getD_eq_getElem?_getD, List.getElem?_eq_getElem (by omega)]
    rfl
  simpa using e2

theorem walk (a0 : Option Addr) (len0 cap0 : Nat) (z0 : List Int) (w : World) (w0 : IsRow .u8 w a0 len0 cap0 z0) (hT : TabAt w) :
    Calls Tryd.prog 4 #[.slice a0 len0 cap0] w fun e w' => e = .returned (.bool true) ∧ Below w.heap.size w w' := by
  obtain ⟨f0, hf0, hs0⟩ := sl_of_row (show _ ∨ _ from w0)
  exact (law_FnTrailing a0 len0 cap0 f0 w hf0 hs0 hT).mono fun e w' ⟨h1, h2⟩ => ⟨h1, h2.below⟩

set_option maxRecDepth 100000 in
theorem lifted (os : Os) (started : os.Started) (H : Type) (enc : TypeId × Value → H) :
    ReturnsInHanded {} Tryd.checked os 4 .any (fun w args => (Rows.fnTrailingSpec.pre enc Tryd.prog Tryd.f4 Rows.fnTrailingRow.domain false w args ∧ laidMetH Tryd.prog Rows.fnTrailingRow.laid w) ∧ sizedMet enc Tryd.prog Tryd.f4 (OpenSpec.ofChange Rows.fnTrailingSpec) false w args)
      (Rows.fnTrailingSpec.post enc Tryd.prog Tryd.f4 false true false false) := by
  refine returnsInHanded_of_change_and (C := Tryd.checked) (X := fun w _ => laidMetH Tryd.prog Rows.fnTrailingRow.laid w) (fun _ _ _ hh h => h.of_heap hh) own started (by kernel_rfl) Tryd.func4
    (ChangeSpec.witness_shaped (enc := enc) (C := Tryd.checked) (os := os) (X := fun w _ => laidMetH Tryd.prog Rows.fnTrailingRow.laid w) false (World.laidAll Tryd.prog os Rows.fnTrailingRow.laid) #[.slice none 0 0] 8 (World.laidAll_os _ _ _)
      (World.shaped_of_ZipB (by kernel_rfl) (by kernel_rfl)) (by kernel_rfl) (by kernel_rfl) (by kernel_rfl)
      (by rw [MakeChecks.laidMetH_plain _ _ _ (by kernel_rfl)]; exact laidMet_laidAll _ (by kernel_rfl) (by kernel_rfl))) ?_
  intro W base args ds gs before hval0 hW hc _ hL _
  have hval : ∀ (j : Nat) t v, Tryd.f4.params[j]? = some t → args[j]? = some v → Value.okWide Tryd.prog W .any base t v := hval0
  have hW' := hW
  obtain ⟨p, q, hA0, hV, rfl, hfz, hnd⟩ := hW
  have hA : DataW.TrodAll enc Tryd.prog W 0 (fun _ => true) true Tryd.f4.params.toList args.toList ds p := hA0
  rw [Tryd.params4] at hA hval
  obtain ⟨v0, vs0, d0, ds0, p0, q0, hargs, rfl, rfl, h0, r0⟩ := trodAll_cons hA
  obtain ⟨rfl, rfl, rfl⟩ := trodAll_nil r0
  obtain rfl : args = #[v0] := by cases args; simp_all
  obtain ⟨rfl, rfl⟩ := trodVars_none hV
  obtain ⟨a0, len0, cap0, rfl⟩ := okWide_slice Tryd.underlying22 (hval 0 22 v0 rfl rfl)
  have k0 := h0
  have lt0 : ∀ x ∈ p0, x.block < W.heap.size := by obtain ⟨m, hm⟩ := k0; exact DataW.trod_lt m _ _ _ hm
  obtain ⟨z0, w0⟩ : ∃ zs, IsRow .u8 W a0 len0 cap0 zs := by
    obtain ⟨fuel, hf⟩ := h0
    rcases open_ints Tryd.underlying22 Tryd.underlying5 (by kernel_rfl) hf with ⟨hcs, _⟩ | ⟨x, l, c, zs, hcs, _, hl, hm, hz, _, hcell, hwz⟩
    · simp [Value.cells] at hcs
      obtain ⟨rfl, rfl, rfl⟩ := hcs
      exact ⟨[], .inl ⟨rfl, rfl, rfl, rfl⟩⟩
    · simp [Value.cells] at hcs
      obtain ⟨rfl, rfl, rfl⟩ := hcs
      exact ⟨zs, .inr ⟨_, rfl, hl, hm, by simpa using hz, hcell, hwz⟩⟩
  clear hA0 hval0
  refine (walk a0 len0 cap0 z0 W w0 (tab hL)).mono fun e W' ⟨he, bel⟩ => ?_
  subst he
  exact ⟨_, rfl, _, _, _, [], _, [], hW', trodAll_mk1 (shut_bool Tryd.underlying4 _), (trodAll_cons_mk (Below.trod laidOut (by kernel_rfl) (of_decide_eq_true (by kernel_rfl)) k0 bel lt0) trodAll_mk0), rfl, bel.frame _, fun h => by cases h⟩

theorem over : Rows.fnTrailingRow.holds Tryd.pinned (OpenSpec.ofChange Rows.fnTrailingSpec) :=
  OpenClaim.holds_of_wide 4 Tryd.f4 rfl rfl rfl rfl rfl rfl rfl ⟨rfl, rfl, rfl, rfl, rfl⟩ rfl rfl rfl rfl rfl (by kernel_rfl) Tryd.func4 (by kernel_rfl)
    (of_decide_eq_true (by kernel_rfl)) (by unfold Func.isWrapper; first | (rw [if_pos (by decide +kernel)]; kernel_rfl) | (rw [if_neg (by decide +kernel)]; exact ⟨rfl, rfl⟩))
    (fun os started H enc _ => lifted os started H enc)

/-- The statement. -/
theorem proved : Rows.FnTrailingCardSaid :=
  Claim7.holds_tied_plain_at .later [] [.data, .data] true (true, "2ac419ac02190c0329969710b7c155bcdb739c07a30793bf96e70be320763ed0") false over (fun _ h => by cases h) (by kernel_rfl) (fun _ h => by cases h) fnTrailing_row_tie rfl ⟨rfl, rfl⟩ (by kernel_rfl) rfl
    (fun f fn hf hfn => by
      obtain rfl : f = 4 := Option.some.inj ((show Tryd.prog.funcNamed "loop.example/pub-g03333/laws.FnTrailing" = some 4 by kernel_rfl).symm.trans hf) |>.symm
      obtain rfl : fn = Tryd.f4 := (Option.some.inj (Tryd.func4.symm.trans hfn)).symm
      exact ⟨by kernel_rfl, fun j t ht => by
        rw [Tryd.params4] at ht
        have hm : t ∈ [22] := by simpa using Array.mem_of_getElem? ht
        have hall : ([22].all fun u => !Tryd.prog.wantsStandIn u) = true := by kernel_rfl
        exact (show Tryd.prog.wantsStandIn t = false by simpa using List.all_eq_true.1 hall t hm)⟩)
    (by kernel_rfl)
#print axioms proved
end Go.Proofs.YtgdjhkmofedhpaaDoor.fnTrailing
