/-
  Two facts on the whole program that a row's frame asks (may a call be entered; are there lifts): by way of the first words of the program's header alone, so that a large seat stays within the memory.
-/
import Derived.Test.YtpojonfopoobpaaRows
import Derived.ProofKit
namespace Go.Proofs.Ytpojonfopoobpaa
theorem words_ne : ∀ l, wordsSigns l ≠ []
  | [] => by simp [wordsSigns]
  | c :: r => by
    unfold wordsSigns
    split
    · simp
    · simp
    · split <;> simp
theorem words_cut : ∀ (l : List Char) (k : Nat), l[k]? = some (Char.ofNat 32) → wordsSigns l = wordsSigns (l.take k) ++ wordsSigns (l.drop (k + 1))
  | [], k, h => by simp at h
  | c :: r, 0, h => by
    simp at h
    subst h
    simp [wordsSigns]
  | c :: r, k + 1, h => by
    have ih := words_cut r k (by simpa using h)
    rw [List.take_succ_cons, List.drop_succ_cons]
    obtain ⟨w, ws, hw⟩ : ∃ w ws, wordsSigns (r.take k) = w :: ws := by
      cases hh : wordsSigns (r.take k) with
      | nil => exact absurd hh (words_ne _)
      | cons a b => exact ⟨a, b, rfl⟩
    by_cases hc : c = Char.ofNat 32
    · subst hc
      have e : ∀ x, wordsSigns (Char.ofNat 32 :: x) = [] :: wordsSigns x := fun x => rfl
      rw [e, e, ih]; rfl
    · have e : ∀ x w ws, wordsSigns x = w :: ws → wordsSigns (c :: x) = (c :: w) :: ws := fun x w ws hx => by
        rw [wordsSigns]
        · rw [hx]
        · intro h'; exact hc h'
      rw [e (r.take k) w ws hw, e r w (ws ++ wordsSigns (r.drop (k + 1))) (by rw [ih, hw]; rfl)]
      rfl

set_option maxRecDepth 1000000 in
set_option maxHeartbeats 1000000 in
theorem headWord : ∃ T, behindMainWord (wordsSigns Try.pinned.checked.prog.initOrder.toList) = "cut".toList :: T := by
  rw [show Try.pinned.checked.prog.initOrder.toList = _ from (congrArg String.toList (show Try.pinned.checked.prog.initOrder = String.ofList _ from rfl)).trans String.toList_ofList]
  rw [words_cut _ 76 rfl]
  generalize wordsSigns (List.drop (76 + 1) _) = T
  exact ⟨T, by kernel_rfl⟩
theorem door_a1 : Try.pinned.checked.prog.laysLater = false := by kernel_rfl
theorem door_a2 : Try.pinned.checked.prog.bearsReflect = false := by kernel_rfl
theorem door_a4 (T : List (List Char)) : stripLifts liftWords ("cut".toList :: T) = ([], "cut".toList :: T) := by kernel_rfl
theorem door_a3 : Try.pinned.checked.prog.doorRows = [] := by kernel_rfl
theorem door_a5 : Try.pinned.checked.prog.doorFits [] = true := by
  unfold Program.doorFits
  rw [door_a3]
  kernel_rfl
theorem enters_of (P : Program) (T : List (List Char)) (hT : behindMainWord (wordsSigns P.initOrder.toList) = "cut".toList :: T) (h1 : P.laysLater = false) (h2 : P.bearsReflect = false) (h5 : P.doorFits [] = true) : P.mayEnter = true := by
  unfold Program.mayEnter
  rw [hT]
  simp only [door_a4 T, h1, h2, h5]
  kernel_rfl
theorem lifts_of (P : Program) (T : List (List Char)) (hT : behindMainWord (wordsSigns P.initOrder.toList) = "cut".toList :: T) : P.liftsFinal = false := by
  unfold Program.liftsFinal Program.headLifts
  rw [hT]
  simp only [door_a4 T]
  kernel_rfl
theorem make_of (P : Program) (T : List (List Char)) (hT : behindMainWord (wordsSigns P.initOrder.toList) = "cut".toList :: T) : P.make = some .cut := by
  unfold Program.make
  rw [hT]
  kernel_rfl
theorem enters : Try.pinned.checked.prog.mayEnter = true := by
  obtain ⟨T, hT⟩ := headWord
  exact enters_of _ T hT door_a1 door_a2 door_a5
theorem lifts0 : Try.pinned.checked.prog.liftsFinal = false := by
  obtain ⟨T, hT⟩ := headWord
  exact lifts_of _ T hT
theorem made0 : Try.pinned.checked.prog.make = some .cut := by
  obtain ⟨T, hT⟩ := headWord
  exact make_of _ T hT
end Go.Proofs.Ytpojonfopoobpaa
