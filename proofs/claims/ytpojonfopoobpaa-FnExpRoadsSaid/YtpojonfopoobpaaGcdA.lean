/-
  Contracts: errors.New, extendedGCD.
-/
import Derived.Test.YtpojonfopoobpaaPlain
import Derived.Test.YtpojonfopoobpaaNatJ
import Derived.Test.YtpojonfopoobpaaNatD
import Derived.Deep.DeepCutAuto
import Derived.Deep.CutBlock
namespace Go.Proofs.Ytpojonfopoobpaa
open Go.RowKit

/-- The eight numbers of extendedGCD. -/
structure G8 (w : World) (pu bu cu pv bv cv pA bA cA pB bB cB pC bC cC pD bD cD pa ba ca pm bm cm ns na nm : Nat) (u v A B C D a m : Nat) : Prop where
  hu : NatAt w pu bu cu ns u
  hv : NatAt w pv bv cv ns v
  hA : NatAt w pA bA cA nm A
  hB : NatAt w pB bB cB na B
  hC : NatAt w pC bC cC nm C
  hD : NatAt w pD bD cD na D
  ha : NatAt w pa ba ca na a
  hm : NatAt w pm bm cm nm m
/-- Their blocks are apart. -/
structure G8S (pu bu pv bv pA bA pB bB pC bC pD bD pa ba pm bm : Nat) : Prop where
  su : pv ≠ bu ∧ bv ≠ bu ∧ pA ≠ bu ∧ bA ≠ bu ∧ pB ≠ bu ∧ bB ≠ bu ∧ pC ≠ bu ∧ bC ≠ bu ∧ pD ≠ bu ∧ bD ≠ bu ∧ pa ≠ bu ∧ ba ≠ bu ∧ pm ≠ bu ∧ bm ≠ bu
  sv : pu ≠ bv ∧ bu ≠ bv ∧ pA ≠ bv ∧ bA ≠ bv ∧ pB ≠ bv ∧ bB ≠ bv ∧ pC ≠ bv ∧ bC ≠ bv ∧ pD ≠ bv ∧ bD ≠ bv ∧ pa ≠ bv ∧ ba ≠ bv ∧ pm ≠ bv ∧ bm ≠ bv
  sA : pu ≠ bA ∧ bu ≠ bA ∧ pv ≠ bA ∧ bv ≠ bA ∧ pB ≠ bA ∧ bB ≠ bA ∧ pC ≠ bA ∧ bC ≠ bA ∧ pD ≠ bA ∧ bD ≠ bA ∧ pa ≠ bA ∧ ba ≠ bA ∧ pm ≠ bA ∧ bm ≠ bA
  sB : pu ≠ bB ∧ bu ≠ bB ∧ pv ≠ bB ∧ bv ≠ bB ∧ pA ≠ bB ∧ bA ≠ bB ∧ pC ≠ bB ∧ bC ≠ bB ∧ pD ≠ bB ∧ bD ≠ bB ∧ pa ≠ bB ∧ ba ≠ bB ∧ pm ≠ bB ∧ bm ≠ bB
  sC : pu ≠ bC ∧ bu ≠ bC ∧ pv ≠ bC ∧ bv ≠ bC ∧ pA ≠ bC ∧ bA ≠ bC ∧ pB ≠ bC ∧ bB ≠ bC ∧ pD ≠ bC ∧ bD ≠ bC ∧ pa ≠ bC ∧ ba ≠ bC ∧ pm ≠ bC ∧ bm ≠ bC
  sD : pu ≠ bD ∧ bu ≠ bD ∧ pv ≠ bD ∧ bv ≠ bD ∧ pA ≠ bD ∧ bA ≠ bD ∧ pB ≠ bD ∧ bB ≠ bD ∧ pC ≠ bD ∧ bC ≠ bD ∧ pa ≠ bD ∧ ba ≠ bD ∧ pm ≠ bD ∧ bm ≠ bD
theorem G8.keep0 {w w' : World} {pu bu cu pv bv cv pA bA cA pB bB cB pC bC cC pD bD cD pa ba ca pm bm cm ns na nm : Nat} {u v A B C D a m : Nat} (g : G8 w pu bu cu pv bv cv pA bA cA pB bB cB pC bC cC pD bD cD pa ba ca pm bm cm ns na nm u v A B C D a m) (hu : Upd0 w w') : G8 w' pu bu cu pv bv cv pA bA cA pB bB cB pC bC cC pD bD cD pa ba ca pm bm cm ns na nm u v A B C D a m :=
  ⟨g.hu.keep0 hu, g.hv.keep0 hu, g.hA.keep0 hu, g.hB.keep0 hu, g.hC.keep0 hu, g.hD.keep0 hu, g.ha.keep0 hu, g.hm.keep0 hu⟩
theorem G8.setu {w w' : World} {pu bu cu pv bv cv pA bA cA pB bB cB pC bC cC pD bD cD pa ba ca pm bm cm ns na nm : Nat} {u v A B C D a m u' : Nat} (g : G8 w pu bu cu pv bv cv pA bA cA pB bB cB pC bC cC pD bD cD pa ba ca pm bm cm ns na nm u v A B C D a m) (s : G8S pu bu pv bv pA bA pB bB pC bC pD bD pa ba pm bm) (hx : NatAt w' pu bu cu ns u') (hu : Upd (fun k => k = bu) w w') : G8 w' pu bu cu pv bv cv pA bA cA pB bB cB pC bC cC pD bD cD pa ba ca pm bm cm ns na nm u' v A B C D a m :=
  ⟨hx, g.hv.keep hu s.su.1 s.su.2.1, g.hA.keep hu s.su.2.2.1 s.su.2.2.2.1, g.hB.keep hu s.su.2.2.2.2.1 s.su.2.2.2.2.2.1, g.hC.keep hu s.su.2.2.2.2.2.2.1 s.su.2.2.2.2.2.2.2.1, g.hD.keep hu s.su.2.2.2.2.2.2.2.2.1 s.su.2.2.2.2.2.2.2.2.2.1, g.ha.keep hu s.su.2.2.2.2.2.2.2.2.2.2.1 s.su.2.2.2.2.2.2.2.2.2.2.2.1, g.hm.keep hu s.su.2.2.2.2.2.2.2.2.2.2.2.2.1 s.su.2.2.2.2.2.2.2.2.2.2.2.2.2⟩
theorem G8.setv {w w' : World} {pu bu cu pv bv cv pA bA cA pB bB cB pC bC cC pD bD cD pa ba ca pm bm cm ns na nm : Nat} {u v A B C D a m v' : Nat} (g : G8 w pu bu cu pv bv cv pA bA cA pB bB cB pC bC cC pD bD cD pa ba ca pm bm cm ns na nm u v A B C D a m) (s : G8S pu bu pv bv pA bA pB bB pC bC pD bD pa ba pm bm) (hx : NatAt w' pv bv cv ns v') (hu : Upd (fun k => k = bv) w w') : G8 w' pu bu cu pv bv cv pA bA cA pB bB cB pC bC cC pD bD cD pa ba ca pm bm cm ns na nm u v' A B C D a m :=
  ⟨g.hu.keep hu s.sv.1 s.sv.2.1, hx, g.hA.keep hu s.sv.2.2.1 s.sv.2.2.2.1, g.hB.keep hu s.sv.2.2.2.2.1 s.sv.2.2.2.2.2.1, g.hC.keep hu s.sv.2.2.2.2.2.2.1 s.sv.2.2.2.2.2.2.2.1, g.hD.keep hu s.sv.2.2.2.2.2.2.2.2.1 s.sv.2.2.2.2.2.2.2.2.2.1, g.ha.keep hu s.sv.2.2.2.2.2.2.2.2.2.2.1 s.sv.2.2.2.2.2.2.2.2.2.2.2.1, g.hm.keep hu s.sv.2.2.2.2.2.2.2.2.2.2.2.2.1 s.sv.2.2.2.2.2.2.2.2.2.2.2.2.2⟩
theorem G8.setA {w w' : World} {pu bu cu pv bv cv pA bA cA pB bB cB pC bC cC pD bD cD pa ba ca pm bm cm ns na nm : Nat} {u v A B C D a m A' : Nat} (g : G8 w pu bu cu pv bv cv pA bA cA pB bB cB pC bC cC pD bD cD pa ba ca pm bm cm ns na nm u v A B C D a m) (s : G8S pu bu pv bv pA bA pB bB pC bC pD bD pa ba pm bm) (hx : NatAt w' pA bA cA nm A') (hu : Upd (fun k => k = bA) w w') : G8 w' pu bu cu pv bv cv pA bA cA pB bB cB pC bC cC pD bD cD pa ba ca pm bm cm ns na nm u v A' B C D a m :=
  ⟨g.hu.keep hu s.sA.1 s.sA.2.1, g.hv.keep hu s.sA.2.2.1 s.sA.2.2.2.1, hx, g.hB.keep hu s.sA.2.2.2.2.1 s.sA.2.2.2.2.2.1, g.hC.keep hu s.sA.2.2.2.2.2.2.1 s.sA.2.2.2.2.2.2.2.1, g.hD.keep hu s.sA.2.2.2.2.2.2.2.2.1 s.sA.2.2.2.2.2.2.2.2.2.1, g.ha.keep hu s.sA.2.2.2.2.2.2.2.2.2.2.1 s.sA.2.2.2.2.2.2.2.2.2.2.2.1, g.hm.keep hu s.sA.2.2.2.2.2.2.2.2.2.2.2.2.1 s.sA.2.2.2.2.2.2.2.2.2.2.2.2.2⟩
theorem G8.setB {w w' : World} {pu bu cu pv bv cv pA bA cA pB bB cB pC bC cC pD bD cD pa ba ca pm bm cm ns na nm : Nat} {u v A B C D a m B' : Nat} (g : G8 w pu bu cu pv bv cv pA bA cA pB bB cB pC bC cC pD bD cD pa ba ca pm bm cm ns na nm u v A B C D a m) (s : G8S pu bu pv bv pA bA pB bB pC bC pD bD pa ba pm bm) (hx : NatAt w' pB bB cB na B') (hu : Upd (fun k => k = bB) w w') : G8 w' pu bu cu pv bv cv pA bA cA pB bB cB pC bC cC pD bD cD pa ba ca pm bm cm ns na nm u v A B' C D a m :=
  ⟨g.hu.keep hu s.sB.1 s.sB.2.1, g.hv.keep hu s.sB.2.2.1 s.sB.2.2.2.1, g.hA.keep hu s.sB.2.2.2.2.1 s.sB.2.2.2.2.2.1, hx, g.hC.keep hu s.sB.2.2.2.2.2.2.1 s.sB.2.2.2.2.2.2.2.1, g.hD.keep hu s.sB.2.2.2.2.2.2.2.2.1 s.sB.2.2.2.2.2.2.2.2.2.1, g.ha.keep hu s.sB.2.2.2.2.2.2.2.2.2.2.1 s.sB.2.2.2.2.2.2.2.2.2.2.2.1, g.hm.keep hu s.sB.2.2.2.2.2.2.2.2.2.2.2.2.1 s.sB.2.2.2.2.2.2.2.2.2.2.2.2.2⟩
theorem G8.setC {w w' : World} {pu bu cu pv bv cv pA bA cA pB bB cB pC bC cC pD bD cD pa ba ca pm bm cm ns na nm : Nat} {u v A B C D a m C' : Nat} (g : G8 w pu bu cu pv bv cv pA bA cA pB bB cB pC bC cC pD bD cD pa ba ca pm bm cm ns na nm u v A B C D a m) (s : G8S pu bu pv bv pA bA pB bB pC bC pD bD pa ba pm bm) (hx : NatAt w' pC bC cC nm C') (hu : Upd (fun k => k = bC) w w') : G8 w' pu bu cu pv bv cv pA bA cA pB bB cB pC bC cC pD bD cD pa ba ca pm bm cm ns na nm u v A B C' D a m :=
  ⟨g.hu.keep hu s.sC.1 s.sC.2.1, g.hv.keep hu s.sC.2.2.1 s.sC.2.2.2.1, g.hA.keep hu s.sC.2.2.2.2.1 s.sC.2.2.2.2.2.1, g.hB.keep hu s.sC.2.2.2.2.2.2.1 s.sC.2.2.2.2.2.2.2.1, hx, g.hD.keep hu s.sC.2.2.2.2.2.2.2.2.1 s.sC.2.2.2.2.2.2.2.2.2.1, g.ha.keep hu s.sC.2.2.2.2.2.2.2.2.2.2.1 s.sC.2.2.2.2.2.2.2.2.2.2.2.1, g.hm.keep hu s.sC.2.2.2.2.2.2.2.2.2.2.2.2.1 s.sC.2.2.2.2.2.2.2.2.2.2.2.2.2⟩
theorem G8.setD {w w' : World} {pu bu cu pv bv cv pA bA cA pB bB cB pC bC cC pD bD cD pa ba ca pm bm cm ns na nm : Nat} {u v A B C D a m D' : Nat} (g : G8 w pu bu cu pv bv cv pA bA cA pB bB cB pC bC cC pD bD cD pa ba ca pm bm cm ns na nm u v A B C D a m) (s : G8S pu bu pv bv pA bA pB bB pC bC pD bD pa ba pm bm) (hx : NatAt w' pD bD cD na D') (hu : Upd (fun k => k = bD) w w') : G8 w' pu bu cu pv bv cv pA bA cA pB bB cB pC bC cC pD bD cD pa ba ca pm bm cm ns na nm u v A B C D' a m :=
  ⟨g.hu.keep hu s.sD.1 s.sD.2.1, g.hv.keep hu s.sD.2.2.1 s.sD.2.2.2.1, g.hA.keep hu s.sD.2.2.2.2.1 s.sD.2.2.2.2.2.1, g.hB.keep hu s.sD.2.2.2.2.2.2.1 s.sD.2.2.2.2.2.2.2.1, g.hC.keep hu s.sD.2.2.2.2.2.2.2.2.1 s.sD.2.2.2.2.2.2.2.2.2.1, hx, g.ha.keep hu s.sD.2.2.2.2.2.2.2.2.2.2.1 s.sD.2.2.2.2.2.2.2.2.2.2.2.1, g.hm.keep hu s.sD.2.2.2.2.2.2.2.2.2.2.2.2.1 s.sD.2.2.2.2.2.2.2.2.2.2.2.2.2⟩
theorem G8S.pv_bu {pu bu pv bv pA bA pB bB pC bC pD bD pa ba pm bm : Nat} (s : G8S pu bu pv bv pA bA pB bB pC bC pD bD pa ba pm bm) : pv ≠ bu := s.su.1
theorem G8S.bv_bu {pu bu pv bv pA bA pB bB pC bC pD bD pa ba pm bm : Nat} (s : G8S pu bu pv bv pA bA pB bB pC bC pD bD pa ba pm bm) : bv ≠ bu := s.su.2.1
theorem G8S.pA_bu {pu bu pv bv pA bA pB bB pC bC pD bD pa ba pm bm : Nat} (s : G8S pu bu pv bv pA bA pB bB pC bC pD bD pa ba pm bm) : pA ≠ bu := s.su.2.2.1
theorem G8S.bA_bu {pu bu pv bv pA bA pB bB pC bC pD bD pa ba pm bm : Nat} (s : G8S pu bu pv bv pA bA pB bB pC bC pD bD pa ba pm bm) : bA ≠ bu := s.su.2.2.2.1
theorem G8S.pB_bu {pu bu pv bv pA bA pB bB pC bC pD bD pa ba pm bm : Nat} (s : G8S pu bu pv bv pA bA pB bB pC bC pD bD pa ba pm bm) : pB ≠ bu := s.su.2.2.2.2.1
theorem G8S.bB_bu {pu bu pv bv pA bA pB bB pC bC pD bD pa ba pm bm : Nat} (s : G8S pu bu pv bv pA bA pB bB pC bC pD bD pa ba pm bm) : bB ≠ bu := s.su.2.2.2.2.2.1
theorem G8S.pC_bu {pu bu pv bv pA bA pB bB pC bC pD bD pa ba pm bm : Nat} (s : G8S pu bu pv bv pA bA pB bB pC bC pD bD pa ba pm bm) : pC ≠ bu := s.su.2.2.2.2.2.2.1
theorem G8S.bC_bu {pu bu pv bv pA bA pB bB pC bC pD bD pa ba pm bm : Nat} (s : G8S pu bu pv bv pA bA pB bB pC bC pD bD pa ba pm bm) : bC ≠ bu := s.su.2.2.2.2.2.2.2.1
theorem G8S.pD_bu {pu bu pv bv pA bA pB bB pC bC pD bD pa ba pm bm : Nat} (s : G8S pu bu pv bv pA bA pB bB pC bC pD bD pa ba pm bm) : pD ≠ bu := s.su.2.2.2.2.2.2.2.2.1
theorem G8S.bD_bu {pu bu pv bv pA bA pB bB pC bC pD bD pa ba pm bm : Nat} (s : G8S pu bu pv bv pA bA pB bB pC bC pD bD pa ba pm bm) : bD ≠ bu := s.su.2.2.2.2.2.2.2.2.2.1
theorem G8S.pa_bu {pu bu pv bv pA bA pB bB pC bC pD bD pa ba pm bm : Nat} (s : G8S pu bu pv bv pA bA pB bB pC bC pD bD pa ba pm bm) : pa ≠ bu := s.su.2.2.2.2.2.2.2.2.2.2.1
theorem G8S.ba_bu {pu bu pv bv pA bA pB bB pC bC pD bD pa ba pm bm : Nat} (s : G8S pu bu pv bv pA bA pB bB pC bC pD bD pa ba pm bm) : ba ≠ bu := s.su.2.2.2.2.2.2.2.2.2.2.2.1
theorem G8S.pm_bu {pu bu pv bv pA bA pB bB pC bC pD bD pa ba pm bm : Nat} (s : G8S pu bu pv bv pA bA pB bB pC bC pD bD pa ba pm bm) : pm ≠ bu := s.su.2.2.2.2.2.2.2.2.2.2.2.2.1
theorem G8S.bm_bu {pu bu pv bv pA bA pB bB pC bC pD bD pa ba pm bm : Nat} (s : G8S pu bu pv bv pA bA pB bB pC bC pD bD pa ba pm bm) : bm ≠ bu := s.su.2.2.2.2.2.2.2.2.2.2.2.2.2
theorem G8S.pu_bv {pu bu pv bv pA bA pB bB pC bC pD bD pa ba pm bm : Nat} (s : G8S pu bu pv bv pA bA pB bB pC bC pD bD pa ba pm bm) : pu ≠ bv := s.sv.1
theorem G8S.bu_bv {pu bu pv bv pA bA pB bB pC bC pD bD pa ba pm bm : Nat} (s : G8S pu bu pv bv pA bA pB bB pC bC pD bD pa ba pm bm) : bu ≠ bv := s.sv.2.1
theorem G8S.pA_bv {pu bu pv bv pA bA pB bB pC bC pD bD pa ba pm bm : Nat} (s : G8S pu bu pv bv pA bA pB bB pC bC pD bD pa ba pm bm) : pA ≠ bv := s.sv.2.2.1
theorem G8S.bA_bv {pu bu pv bv pA bA pB bB pC bC pD bD pa ba pm bm : Nat} (s : G8S pu bu pv bv pA bA pB bB pC bC pD bD pa ba pm bm) : bA ≠ bv := s.sv.2.2.2.1
theorem G8S.pB_bv {pu bu pv bv pA bA pB bB pC bC pD bD pa ba pm bm : Nat} (s : G8S pu bu pv bv pA bA pB bB pC bC pD bD pa ba pm bm) : pB ≠ bv := s.sv.2.2.2.2.1
theorem G8S.bB_bv {pu bu pv bv pA bA pB bB pC bC pD bD pa ba pm bm : Nat} (s : G8S pu bu pv bv pA bA pB bB pC bC pD bD pa ba pm bm) : bB ≠ bv := s.sv.2.2.2.2.2.1
theorem G8S.pC_bv {pu bu pv bv pA bA pB bB pC bC pD bD pa ba pm bm : Nat} (s : G8S pu bu pv bv pA bA pB bB pC bC pD bD pa ba pm bm) : pC ≠ bv := s.sv.2.2.2.2.2.2.1
theorem G8S.bC_bv {pu bu pv bv pA bA pB bB pC bC pD bD pa ba pm bm : Nat} (s : G8S pu bu pv bv pA bA pB bB pC bC pD bD pa ba pm bm) : bC ≠ bv := s.sv.2.2.2.2.2.2.2.1
theorem G8S.pD_bv {pu bu pv bv pA bA pB bB pC bC pD bD pa ba pm bm : Nat} (s : G8S pu bu pv bv pA bA pB bB pC bC pD bD pa ba pm bm) : pD ≠ bv := s.sv.2.2.2.2.2.2.2.2.1
theorem G8S.bD_bv {pu bu pv bv pA bA pB bB pC bC pD bD pa ba pm bm : Nat} (s : G8S pu bu pv bv pA bA pB bB pC bC pD bD pa ba pm bm) : bD ≠ bv := s.sv.2.2.2.2.2.2.2.2.2.1
theorem G8S.pa_bv {pu bu pv bv pA bA pB bB pC bC pD bD pa ba pm bm : Nat} (s : G8S pu bu pv bv pA bA pB bB pC bC pD bD pa ba pm bm) : pa ≠ bv := s.sv.2.2.2.2.2.2.2.2.2.2.1
theorem G8S.ba_bv {pu bu pv bv pA bA pB bB pC bC pD bD pa ba pm bm : Nat} (s : G8S pu bu pv bv pA bA pB bB pC bC pD bD pa ba pm bm) : ba ≠ bv := s.sv.2.2.2.2.2.2.2.2.2.2.2.1
theorem G8S.pm_bv {pu bu pv bv pA bA pB bB pC bC pD bD pa ba pm bm : Nat} (s : G8S pu bu pv bv pA bA pB bB pC bC pD bD pa ba pm bm) : pm ≠ bv := s.sv.2.2.2.2.2.2.2.2.2.2.2.2.1
theorem G8S.bm_bv {pu bu pv bv pA bA pB bB pC bC pD bD pa ba pm bm : Nat} (s : G8S pu bu pv bv pA bA pB bB pC bC pD bD pa ba pm bm) : bm ≠ bv := s.sv.2.2.2.2.2.2.2.2.2.2.2.2.2
theorem G8S.pu_bA {pu bu pv bv pA bA pB bB pC bC pD bD pa ba pm bm : Nat} (s : G8S pu bu pv bv pA bA pB bB pC bC pD bD pa ba pm bm) : pu ≠ bA := s.sA.1
theorem G8S.bu_bA {pu bu pv bv pA bA pB bB pC bC pD bD pa ba pm bm : Nat} (s : G8S pu bu pv bv pA bA pB bB pC bC pD bD pa ba pm bm) : bu ≠ bA := s.sA.2.1
theorem G8S.pv_bA {pu bu pv bv pA bA pB bB pC bC pD bD pa ba pm bm : Nat} (s : G8S pu bu pv bv pA bA pB bB pC bC pD bD pa ba pm bm) : pv ≠ bA := s.sA.2.2.1
theorem G8S.bv_bA {pu bu pv bv pA bA pB bB pC bC pD bD pa ba pm bm : Nat} (s : G8S pu bu pv bv pA bA pB bB pC bC pD bD pa ba pm bm) : bv ≠ bA := s.sA.2.2.2.1
theorem G8S.pB_bA {pu bu pv bv pA bA pB bB pC bC pD bD pa ba pm bm : Nat} (s : G8S pu bu pv bv pA bA pB bB pC bC pD bD pa ba pm bm) : pB ≠ bA := s.sA.2.2.2.2.1
theorem G8S.bB_bA {pu bu pv bv pA bA pB bB pC bC pD bD pa ba pm bm : Nat} (s : G8S pu bu pv bv pA bA pB bB pC bC pD bD pa ba pm bm) : bB ≠ bA := s.sA.2.2.2.2.2.1
theorem G8S.pC_bA {pu bu pv bv pA bA pB bB pC bC pD bD pa ba pm bm : Nat} (s : G8S pu bu pv bv pA bA pB bB pC bC pD bD pa ba pm bm) : pC ≠ bA := s.sA.2.2.2.2.2.2.1
theorem G8S.bC_bA {pu bu pv bv pA bA pB bB pC bC pD bD pa ba pm bm : Nat} (s : G8S pu bu pv bv pA bA pB bB pC bC pD bD pa ba pm bm) : bC ≠ bA := s.sA.2.2.2.2.2.2.2.1
theorem G8S.pD_bA {pu bu pv bv pA bA pB bB pC bC pD bD pa ba pm bm : Nat} (s : G8S pu bu pv bv pA bA pB bB pC bC pD bD pa ba pm bm) : pD ≠ bA := s.sA.2.2.2.2.2.2.2.2.1
theorem G8S.bD_bA {pu bu pv bv pA bA pB bB pC bC pD bD pa ba pm bm : Nat} (s : G8S pu bu pv bv pA bA pB bB pC bC pD bD pa ba pm bm) : bD ≠ bA := s.sA.2.2.2.2.2.2.2.2.2.1
theorem G8S.pa_bA {pu bu pv bv pA bA pB bB pC bC pD bD pa ba pm bm : Nat} (s : G8S pu bu pv bv pA bA pB bB pC bC pD bD pa ba pm bm) : pa ≠ bA := s.sA.2.2.2.2.2.2.2.2.2.2.1
theorem G8S.ba_bA {pu bu pv bv pA bA pB bB pC bC pD bD pa ba pm bm : Nat} (s : G8S pu bu pv bv pA bA pB bB pC bC pD bD pa ba pm bm) : ba ≠ bA := s.sA.2.2.2.2.2.2.2.2.2.2.2.1
theorem G8S.pm_bA {pu bu pv bv pA bA pB bB pC bC pD bD pa ba pm bm : Nat} (s : G8S pu bu pv bv pA bA pB bB pC bC pD bD pa ba pm bm) : pm ≠ bA := s.sA.2.2.2.2.2.2.2.2.2.2.2.2.1
theorem G8S.bm_bA {pu bu pv bv pA bA pB bB pC bC pD bD pa ba pm bm : Nat} (s : G8S pu bu pv bv pA bA pB bB pC bC pD bD pa ba pm bm) : bm ≠ bA := s.sA.2.2.2.2.2.2.2.2.2.2.2.2.2
theorem G8S.pu_bB {pu bu pv bv pA bA pB bB pC bC pD bD pa ba pm bm : Nat} (s : G8S pu bu pv bv pA bA pB bB pC bC pD bD pa ba pm bm) : pu ≠ bB := s.sB.1
theorem G8S.bu_bB {pu bu pv bv pA bA pB bB pC bC pD bD pa ba pm bm : Nat} (s : G8S pu bu pv bv pA bA pB bB pC bC pD bD pa ba pm bm) : bu ≠ bB := s.sB.2.1
theorem G8S.pv_bB {pu bu pv bv pA bA pB bB pC bC pD bD pa ba pm bm : Nat} (s : G8S pu bu pv bv pA bA pB bB pC bC pD bD pa ba pm bm) : pv ≠ bB := s.sB.2.2.1
theorem G8S.bv_bB {pu bu pv bv pA bA pB bB pC bC pD bD pa ba pm bm : Nat} (s : G8S pu bu pv bv pA bA pB bB pC bC pD bD pa ba pm bm) : bv ≠ bB := s.sB.2.2.2.1
theorem G8S.pA_bB {pu bu pv bv pA bA pB bB pC bC pD bD pa ba pm bm : Nat} (s : G8S pu bu pv bv pA bA pB bB pC bC pD bD pa ba pm bm) : pA ≠ bB := s.sB.2.2.2.2.1
theorem G8S.bA_bB {pu bu pv bv pA bA pB bB pC bC pD bD pa ba pm bm : Nat} (s : G8S pu bu pv bv pA bA pB bB pC bC pD bD pa ba pm bm) : bA ≠ bB := s.sB.2.2.2.2.2.1
theorem G8S.pC_bB {pu bu pv bv pA bA pB bB pC bC pD bD pa ba pm bm : Nat} (s : G8S pu bu pv bv pA bA pB bB pC bC pD bD pa ba pm bm) : pC ≠ bB := s.sB.2.2.2.2.2.2.1
theorem G8S.bC_bB {pu bu pv bv pA bA pB bB pC bC pD bD pa ba pm bm : Nat} (s : G8S pu bu pv bv pA bA pB bB pC bC pD bD pa ba pm bm) : bC ≠ bB := s.sB.2.2.2.2.2.2.2.1
theorem G8S.pD_bB {pu bu pv bv pA bA pB bB pC bC pD bD pa ba pm bm : Nat} (s : G8S pu bu pv bv pA bA pB bB pC bC pD bD pa ba pm bm) : pD ≠ bB := s.sB.2.2.2.2.2.2.2.2.1
theorem G8S.bD_bB {pu bu pv bv pA bA pB bB pC bC pD bD pa ba pm bm : Nat} (s : G8S pu bu pv bv pA bA pB bB pC bC pD bD pa ba pm bm) : bD ≠ bB := s.sB.2.2.2.2.2.2.2.2.2.1
theorem G8S.pa_bB {pu bu pv bv pA bA pB bB pC bC pD bD pa ba pm bm : Nat} (s : G8S pu bu pv bv pA bA pB bB pC bC pD bD pa ba pm bm) : pa ≠ bB := s.sB.2.2.2.2.2.2.2.2.2.2.1
theorem G8S.ba_bB {pu bu pv bv pA bA pB bB pC bC pD bD pa ba pm bm : Nat} (s : G8S pu bu pv bv pA bA pB bB pC bC pD bD pa ba pm bm) : ba ≠ bB := s.sB.2.2.2.2.2.2.2.2.2.2.2.1
theorem G8S.pm_bB {pu bu pv bv pA bA pB bB pC bC pD bD pa ba pm bm : Nat} (s : G8S pu bu pv bv pA bA pB bB pC bC pD bD pa ba pm bm) : pm ≠ bB := s.sB.2.2.2.2.2.2.2.2.2.2.2.2.1
theorem G8S.bm_bB {pu bu pv bv pA bA pB bB pC bC pD bD pa ba pm bm : Nat} (s : G8S pu bu pv bv pA bA pB bB pC bC pD bD pa ba pm bm) : bm ≠ bB := s.sB.2.2.2.2.2.2.2.2.2.2.2.2.2
theorem G8S.pu_bC {pu bu pv bv pA bA pB bB pC bC pD bD pa ba pm bm : Nat} (s : G8S pu bu pv bv pA bA pB bB pC bC pD bD pa ba pm bm) : pu ≠ bC := s.sC.1
theorem G8S.bu_bC {pu bu pv bv pA bA pB bB pC bC pD bD pa ba pm bm : Nat} (s : G8S pu bu pv bv pA bA pB bB pC bC pD bD pa ba pm bm) : bu ≠ bC := s.sC.2.1
theorem G8S.pv_bC {pu bu pv bv pA bA pB bB pC bC pD bD pa ba pm bm : Nat} (s : G8S pu bu pv bv pA bA pB bB pC bC pD bD pa ba pm bm) : pv ≠ bC := s.sC.2.2.1
theorem G8S.bv_bC {pu bu pv bv pA bA pB bB pC bC pD bD pa ba pm bm : Nat} (s : G8S pu bu pv bv pA bA pB bB pC bC pD bD pa ba pm bm) : bv ≠ bC := s.sC.2.2.2.1
theorem G8S.pA_bC {pu bu pv bv pA bA pB bB pC bC pD bD pa ba pm bm : Nat} (s : G8S pu bu pv bv pA bA pB bB pC bC pD bD pa ba pm bm) : pA ≠ bC := s.sC.2.2.2.2.1
theorem G8S.bA_bC {pu bu pv bv pA bA pB bB pC bC pD bD pa ba pm bm : Nat} (s : G8S pu bu pv bv pA bA pB bB pC bC pD bD pa ba pm bm) : bA ≠ bC := s.sC.2.2.2.2.2.1
theorem G8S.pB_bC {pu bu pv bv pA bA pB bB pC bC pD bD pa ba pm bm : Nat} (s : G8S pu bu pv bv pA bA pB bB pC bC pD bD pa ba pm bm) : pB ≠ bC := s.sC.2.2.2.2.2.2.1
theorem G8S.bB_bC {pu bu pv bv pA bA pB bB pC bC pD bD pa ba pm bm : Nat} (s : G8S pu bu pv bv pA bA pB bB pC bC pD bD pa ba pm bm) : bB ≠ bC := s.sC.2.2.2.2.2.2.2.1
theorem G8S.pD_bC {pu bu pv bv pA bA pB bB pC bC pD bD pa ba pm bm : Nat} (s : G8S pu bu pv bv pA bA pB bB pC bC pD bD pa ba pm bm) : pD ≠ bC := s.sC.2.2.2.2.2.2.2.2.1
theorem G8S.bD_bC {pu bu pv bv pA bA pB bB pC bC pD bD pa ba pm bm : Nat} (s : G8S pu bu pv bv pA bA pB bB pC bC pD bD pa ba pm bm) : bD ≠ bC := s.sC.2.2.2.2.2.2.2.2.2.1
theorem G8S.pa_bC {pu bu pv bv pA bA pB bB pC bC pD bD pa ba pm bm : Nat} (s : G8S pu bu pv bv pA bA pB bB pC bC pD bD pa ba pm bm) : pa ≠ bC := s.sC.2.2.2.2.2.2.2.2.2.2.1
theorem G8S.ba_bC {pu bu pv bv pA bA pB bB pC bC pD bD pa ba pm bm : Nat} (s : G8S pu bu pv bv pA bA pB bB pC bC pD bD pa ba pm bm) : ba ≠ bC := s.sC.2.2.2.2.2.2.2.2.2.2.2.1
theorem G8S.pm_bC {pu bu pv bv pA bA pB bB pC bC pD bD pa ba pm bm : Nat} (s : G8S pu bu pv bv pA bA pB bB pC bC pD bD pa ba pm bm) : pm ≠ bC := s.sC.2.2.2.2.2.2.2.2.2.2.2.2.1
theorem G8S.bm_bC {pu bu pv bv pA bA pB bB pC bC pD bD pa ba pm bm : Nat} (s : G8S pu bu pv bv pA bA pB bB pC bC pD bD pa ba pm bm) : bm ≠ bC := s.sC.2.2.2.2.2.2.2.2.2.2.2.2.2
theorem G8S.pu_bD {pu bu pv bv pA bA pB bB pC bC pD bD pa ba pm bm : Nat} (s : G8S pu bu pv bv pA bA pB bB pC bC pD bD pa ba pm bm) : pu ≠ bD := s.sD.1
theorem G8S.bu_bD {pu bu pv bv pA bA pB bB pC bC pD bD pa ba pm bm : Nat} (s : G8S pu bu pv bv pA bA pB bB pC bC pD bD pa ba pm bm) : bu ≠ bD := s.sD.2.1
theorem G8S.pv_bD {pu bu pv bv pA bA pB bB pC bC pD bD pa ba pm bm : Nat} (s : G8S pu bu pv bv pA bA pB bB pC bC pD bD pa ba pm bm) : pv ≠ bD := s.sD.2.2.1
theorem G8S.bv_bD {pu bu pv bv pA bA pB bB pC bC pD bD pa ba pm bm : Nat} (s : G8S pu bu pv bv pA bA pB bB pC bC pD bD pa ba pm bm) : bv ≠ bD := s.sD.2.2.2.1
theorem G8S.pA_bD {pu bu pv bv pA bA pB bB pC bC pD bD pa ba pm bm : Nat} (s : G8S pu bu pv bv pA bA pB bB pC bC pD bD pa ba pm bm) : pA ≠ bD := s.sD.2.2.2.2.1
theorem G8S.bA_bD {pu bu pv bv pA bA pB bB pC bC pD bD pa ba pm bm : Nat} (s : G8S pu bu pv bv pA bA pB bB pC bC pD bD pa ba pm bm) : bA ≠ bD := s.sD.2.2.2.2.2.1
theorem G8S.pB_bD {pu bu pv bv pA bA pB bB pC bC pD bD pa ba pm bm : Nat} (s : G8S pu bu pv bv pA bA pB bB pC bC pD bD pa ba pm bm) : pB ≠ bD := s.sD.2.2.2.2.2.2.1
theorem G8S.bB_bD {pu bu pv bv pA bA pB bB pC bC pD bD pa ba pm bm : Nat} (s : G8S pu bu pv bv pA bA pB bB pC bC pD bD pa ba pm bm) : bB ≠ bD := s.sD.2.2.2.2.2.2.2.1
theorem G8S.pC_bD {pu bu pv bv pA bA pB bB pC bC pD bD pa ba pm bm : Nat} (s : G8S pu bu pv bv pA bA pB bB pC bC pD bD pa ba pm bm) : pC ≠ bD := s.sD.2.2.2.2.2.2.2.2.1
theorem G8S.bC_bD {pu bu pv bv pA bA pB bB pC bC pD bD pa ba pm bm : Nat} (s : G8S pu bu pv bv pA bA pB bB pC bC pD bD pa ba pm bm) : bC ≠ bD := s.sD.2.2.2.2.2.2.2.2.2.1
theorem G8S.pa_bD {pu bu pv bv pA bA pB bB pC bC pD bD pa ba pm bm : Nat} (s : G8S pu bu pv bv pA bA pB bB pC bC pD bD pa ba pm bm) : pa ≠ bD := s.sD.2.2.2.2.2.2.2.2.2.2.1
theorem G8S.ba_bD {pu bu pv bv pA bA pB bB pC bC pD bD pa ba pm bm : Nat} (s : G8S pu bu pv bv pA bA pB bB pC bC pD bD pa ba pm bm) : ba ≠ bD := s.sD.2.2.2.2.2.2.2.2.2.2.2.1
theorem G8S.pm_bD {pu bu pv bv pA bA pB bB pC bC pD bD pa ba pm bm : Nat} (s : G8S pu bu pv bv pA bA pB bB pC bC pD bD pa ba pm bm) : pm ≠ bD := s.sD.2.2.2.2.2.2.2.2.2.2.2.2.1
theorem G8S.bm_bD {pu bu pv bv pA bA pB bB pC bC pD bD pa ba pm bm : Nat} (s : G8S pu bu pv bv pA bA pB bB pC bC pD bD pa ba pm bm) : bm ≠ bD := s.sD.2.2.2.2.2.2.2.2.2.2.2.2.2

/-- A new number of n limbs. -/
def FreshNum (w : World) (n X : Nat) (t : Value) (wx : World) : Prop :=
  ∃ p b c, t = .pointer (some ⟨p, 0, none⟩) ∧ NatAt wx p b c n X ∧ w.heap.size ≤ p ∧ w.heap.size ≤ b ∧ p < wx.heap.size ∧ b < wx.heap.size ∧ Upd0 w wx
/-- NewNat().reset(n): a new number 0 of n limbs. -/
theorem fresh_reset {w w1 w2 : World} {n : Nat} (hz : w1.heap.size = w.heap.size + 2) (hu1 : Upd0 w w1) {b' c' : Nat} (hx : NatAt w2 (w.heap.size + 1) b' c' n 0) (hb : NewB w1 w.heap.size b') (hu2 : Upd (fun k => k = w.heap.size + 1 ∨ k = w.heap.size) w1 w2) :
    FreshNum w n 0 (.pointer (some ⟨w.heap.size + 1, 0, none⟩)) w2 :=
  ⟨_, b', c', rfl, hx, by omega, by rcases hb with h | h <;> omega, hx.hp, hx.hb, hu1.then hu2 (fun i hi h => by omega)⟩
/-- The first limb of a number 0 is set. -/
theorem NatAt.setLow {w : World} {p b c n : Nat} (hx : NatAt w p b c n 0) (hn : 0 < n) (d : Nat) (hd : d < 18446744073709551616) : NatAt (w.setCell ⟨b, 0, none⟩ (.int .u64 d)) p b c n d := by
  have hw := (Wrote.start hx.own).set hn d rfl
  refine hx.wrote (hw.congr fun i hi => ?_) ?_
  · by_cases e : i = 0
    · subst e; rw [if_pos rfl, dg_zero, Nat.mod_eq_of_lt (by unfold W64; omega)]
    · rw [if_neg e, dg_of_lt (Nat.pow_pos W64_pos), dg_of_lt' W64_pos (n := 1) (by unfold W64; omega) (by omega)]
  · obtain ⟨k, rfl⟩ : ∃ k, n = k + 1 := ⟨n - 1, by omega⟩
    rw [Nat.pow_succ]
    have := Nat.le_mul_of_pos_left W64 (Nat.pow_pos (n := k) W64_pos)
    unfold W64 at this ⊢
    omega

/-- What holds at the head of the loop. -/
def GHead (w : World) (pu bu cu pv bv cv pA bA cA pB bB cB pC bC cC pD bD cD pa ba ca pm bm cm ns na nm a m k : Nat) (wr : World) : Prop :=
  ∃ u v A B C D, G8 wr pu bu cu pv bv cv pA bA cA pB bB cB pC bC cC pD bD cD pa ba ca pm bm cm ns na nm u v A B C D a m ∧ GI a m u v A B C D ∧ 0 < v ∧ u + v ≤ k ∧ Upd0 w wr
/-- What holds in the middle of a round: one of u and v is odd. -/
def GMid (w : World) (pu bu cu pv bv cv pA bA cA pB bB cB pC bC cC pD bD cD pa ba ca pm bm cm ns na nm a m k : Nat) (wr : World) : Prop :=
  ∃ u v A B C D, G8 wr pu bu cu pv bv cv pA bA cA pB bB cB pC bC cC pD bD cD pa ba ca pm bm cm ns na nm u v A B C D a m ∧ GI a m u v A B C D ∧ u % 2 ≠ v % 2 ∧ (u + v < k ∨ 0 < v ∧ u + v ≤ k) ∧ Upd0 w wr
/-- What extendedGCD returns. -/
def RetGcd (w : World) (n nm a m : Nat) (e : Ending) (w' : World) : Prop :=
  ∃ pu bu cu pA bA cA A, e = .returned (.tuple #[.pointer (some ⟨pu, 0, none⟩), .pointer (some ⟨pA, 0, none⟩), .nilIface]) ∧ NatAt w' pu bu cu n (Nat.gcd a m) ∧ NatAt w' pA bA cA nm A ∧ (a < m → A < m ∧ A * a % m = Nat.gcd a m % m)
    ∧ w.heap.size ≤ pu ∧ w.heap.size ≤ bu ∧ w.heap.size ≤ pA ∧ w.heap.size ≤ bA ∧ Upd0 w w'

theorem par_cases (x : Nat) : x % 2 = 0 ∨ x % 2 = 1 := Nat.mod_two_eq_zero_or_one x

theorem newNat_drew (w : World) :
    Calls Try.prog 59 #[] w.drew fun e w' => e = .returned (.pointer (some ⟨w.heap.size + 1, 0, none⟩)) ∧ NatAt w' (w.heap.size + 1) w.heap.size 32 0 0 ∧ Upd0 w w' ∧ Hid (w'.heap.size = w.heap.size + 2) :=
  (newNat_any w.drew).mono fun _ _ ⟨h1, h2, h3, h4⟩ => ⟨h1, h2, h3.of_drew, h4⟩
theorem isOdd_yes {p b c n X : Nat} {w : World} (hx : NatAt w p b c n X) (h : X % 2 = 1) : Calls Try.prog 135 #[.pointer (some ⟨p, 0, none⟩)] w fun e w' => e = .returned (.int .u64 1) ∧ w = w' := by
  have := isOdd_any p b c n X w hx
  rw [h] at this
  exact this
theorem isOdd_no {p b c n X : Nat} {w : World} (hx : NatAt w p b c n X) (h : X % 2 = 0) : Calls Try.prog 135 #[.pointer (some ⟨p, 0, none⟩)] w fun e w' => e = .returned (.int .u64 0) ∧ w = w' := by
  have := isOdd_any p b c n X w hx
  rw [h] at this
  exact this
theorem isZero_yes {p b c n : Nat} {w : World} (hx : NatAt w p b c n 0) : Calls Try.prog 134 #[.pointer (some ⟨p, 0, none⟩)] w fun e w' => e = .returned (.int .u64 1) ∧ w = w' := isZero_any p b c n 0 w hx
theorem isZero_no {p b c n X : Nat} {w : World} (hx : NatAt w p b c n X) (h : 0 < X) : Calls Try.prog 134 #[.pointer (some ⟨p, 0, none⟩)] w fun e w' => e = .returned (.int .u64 0) ∧ w = w' := by
  have := isZero_any p b c n X w hx
  rw [show eqN X 0 = 0 from if_neg (by omega)] at this
  exact this
theorem rshift_half {p b c n X : Nat} {w : World} (hx : NatAt w p b c n X) : Calls Try.prog 137 #[.pointer (some ⟨p, 0, none⟩), .int .u64 0] w fun e w' => e = .returned (.tuple #[]) ∧ NatAt w' p b c n (X / 2) ∧ Upd (fun k => k = b) w w' := by
  have := rshift1_any p b c n X 0 w hx (by omega)
  rw [Nat.zero_mul, Nat.add_zero] at this
  exact this
theorem rshift_sum {p b c n X Y : Nat} {w : World} (hx : NatAt w p b c n ((X + Y) % W64 ^ n)) (hX : X < W64 ^ n) (hY : Y < W64 ^ n) : Calls Try.prog 137 #[.pointer (some ⟨p, 0, none⟩), .int .u64 (caN X Y n : Nat)] w fun e w' => e = .returned (.tuple #[]) ∧ NatAt w' p b c n ((X + Y) / 2) ∧ Upd (fun k => k = b) w w' := by
  have := rshift1_any p b c n _ (caN X Y n) w hx (caN_le _ _ _)
  rw [caN_all hX hY, Nat.mul_comm ((X + Y) / W64 ^ n), Nat.mod_add_div, ← caN_all hX hY] at this
  exact this
theorem MNat.boxed {w : World} {q b c n M : Nat} (h : NatAt w q b c n M) (t : Nat) : MNat (w.alloc (.cells #[.pointer (some ⟨q, 0, none⟩), .bool false, .int .u64 0, .pointer none] t)) w.heap.size q b c n M :=
  ⟨World.cell?_alloc_new _ _ _ _, h.keep0 ((Upd.refl _ _).alloc _)⟩

set_option maxRecDepth 100000 in
set_option maxHeartbeats 8000000 in
theorem extGCD_any (pa ba ca na a pm bm cm nm m : Nat) (w : World) (hxa : NatAt w pa ba ca na a) (hxm : NatAt w pm bm cm nm m) (ha0 : 0 < a) (hm0 : 0 < m) (hod : a % 2 = 1 ∨ m % 2 = 1) :
    Calls Try.prog 98 #[.pointer (some ⟨pa, 0, none⟩), .pointer (some ⟨pm, 0, none⟩)] w (RetGcd w (max na nm) nm a m) := by
  have za : eqN a 0 = 0 := if_neg (by omega)
  have zm : eqN m 0 = 0 := if_neg (by omega)
  have hca := hxa.hd
  have hcm := hxm.hd
  have lea := hxa.le
  have lem := hxm.le
  have sma := hxa.sm
  have smm := hxm.sm
  have hlpa := hxa.hp
  have hlpm := hxm.hp
  have hlba := hxa.hb
  have hlbm := hxm.hb
  have hna : 0 < na := by
    rcases Nat.eq_zero_or_pos na with h | h
    · subst h; have := hxa.lt; simp at this; omega
    · exact h
  have hnm : 0 < nm := by
    rcases Nat.eq_zero_or_pos nm with h | h
    · subst h; have := hxm.lt; simp at this; omega
    · exact h
  have hz1 := isZero_any pa ba ca na a w hxa
  have hz2 := isZero_any pm bm cm nm m w hxm
  rw [za] at hz1
  rw [zm] at hz2
  have ho1 := isOdd_any pa ba ca na a w hxa
  have ho2 := isOdd_any pm bm cm nm m w hxm
  obtain ⟨qa, Hqa⟩ : ∃ q, Hid (q = a % 2) := ⟨_, rfl⟩
  obtain ⟨qm, Hqm⟩ : ∃ q, Hid (q = m % 2) := ⟨_, rfl⟩
  rw [← Hqa.out] at ho1
  rw [← Hqm.out] at ho2
  replace hz1 := Lib.hid hz1
  replace hz2 := Lib.hid hz2
  replace ho1 := Lib.hid ho1
  replace ho2 := Lib.hid ho2
  have Hod : Hid (a % 2 = 1 ∨ m % 2 = 1) := hod
  have hodq : qa = 1 ∨ qm = 1 := by rw [Hqa.out, Hqm.out]; exact hod
  have hqa : qa ≤ 1 := by rw [Hqa.out]; omega
  have hqm : qm ≤ 1 := by rw [Hqm.out]; omega
  clear hod za zm
  obtain ⟨ns, Hns⟩ : ∃ ns, Hid (ns = max na nm) := ⟨_, rfl⟩
  have hns1 : na ≤ ns := by rw [Hns.out]; omega
  have hns2 : nm ≤ ns := by rw [Hns.out]; omega
  have hns3 : ns ≤ 65536 := by rw [Hns.out]; omega
  rw [← Hns.out]
  go_enter Try.func98, Try.ntmps98
  go_upto_region 3 with (first | (go_at_call 134; with_reducible refine hz1.out.mono ?_; rintro e w' ⟨rfl, rfl⟩) | (go_at_call 134; with_reducible refine hz2.out.mono ?_; rintro e w' ⟨rfl, rfl⟩))
  go_cut [28] (fun t wx => t = .bool false ∧ w = wx)
  case first =>
    rcases (show qa = 0 ∨ qa = 1 by omega) with h | h
    · have h2 : qm = 1 := by omega
      rw [h] at ho1
      rw [h2] at ho2
      clear hodq hqa hqm
      go_wp2_with (first | (go_at_call 135; with_reducible refine ho1.out.mono ?_; rintro e w' ⟨rfl, rfl⟩) | (go_at_call 135; with_reducible refine ho2.out.mono ?_; rintro e w' ⟨rfl, rfl⟩))
      go_meet
      exact ⟨rfl, rfl⟩
    · rw [h] at ho1
      clear hodq hqa hqm
      go_wp2_with (first | (go_at_call 135; with_reducible refine ho1.out.mono ?_; rintro e w' ⟨rfl, rfl⟩))
      go_meet
      exact ⟨rfl, rfl⟩
  case rest =>
    obtain ⟨rfl, rfl⟩ := hcut
    clear hz1 hz2 ho1 ho2 hodq hqa hqm Hqa Hqm
    go_upto_region 5 with fail
    go_cut [7] (fun t wx => t = .int .i64 ns ∧ ∃ k, wx = w.drewN k)
    case first =>
      clear hxa hxm
      go_wp2_with fail
      go_quiet (fail)
      go_wp2_with fail
      all_goals (go_meet; exact ⟨by congr 1; rw [Hns.out]; omega, _, rfl⟩)
    case rest =>
      obtain ⟨rfl, k5, rfl⟩ := hcut
      have hu5 : Upd0 w (w.drewN k5) := (Upd.refl _ _).drewN k5
      have hz5 : w.heap.size ≤ (w.drewN k5).heap.size := Nat.le_refl _
      have hxa5 := hxa.drewN k5
      have hxm5 := hxm.drewN k5
      generalize w.drewN k5 = w5 at *
      clear hca hcm
      go_wp2_with fail
      with_reducible refine (newNat_any w5).mono ?_
      rintro e wu1 ⟨rfl, hu0, huu1, hzu1⟩
      replace hzu1 : w5.heap.size + 2 ≤ wu1.heap.size := by omega
      go_wp2_with fail
      with_reducible refine (set_any (w5.heap.size + 1) w5.heap.size 32 0 0 pa ba ca na a wu1 hu0 (hxa5.keep0 huu1) (by omega) (by omega) (by omega) (by omega)).mono ?_
      rintro e wu2 ⟨rfl, bu2, cu2, hu1, hbu2, huu2⟩
      go_wp2_with fail
      with_reducible refine (expand_any (w5.heap.size + 1) bu2 cu2 na a ns wu2 hu1 hns1 hns3).mono ?_
      rintro e wu ⟨rfl, bu, cu, hu, hbu, huu⟩
      obtain ⟨pu, Hpu⟩ : ∃ pu, Hid (pu = w5.heap.size + 1) := ⟨_, rfl⟩
      have gu1 : w5.heap.size ≤ pu := by rw [Hpu.out]; omega
      have zu1 := huu1.size
      have zu2 := huu2.size
      have gu2 : w5.heap.size ≤ bu := by rcases hbu2 with h | h <;> rcases hbu with h' | h' <;> omega
      have uu : Upd0 w5 wu := (huu1.then huu2 (fun i hi h => by omega)).then huu (fun i hi h => by rcases hbu2 with h' | h' <;> omega)
      rw [← Hpu.out] at hu ⊢
      have lu1 := hu.hp
      have lu2 := hu.hb
      have su := uu.size
      clear hu0 huu1 hzu1 hu1 hbu2 huu2 hbu huu Hpu zu1 zu2
      have hxmu := hxm5.keep0 uu
      go_wp2_with fail
      with_reducible refine (newNat_any wu).mono ?_
      rintro e wv1 ⟨rfl, hv0, huv1, hzv1⟩
      replace hzv1 : wu.heap.size + 2 ≤ wv1.heap.size := by omega
      go_wp2_with fail
      with_reducible refine (set_any (wu.heap.size + 1) wu.heap.size 32 0 0 pm bm cm nm m wv1 hv0 (hxmu.keep0 huv1) (by omega) (by omega) (by omega) (by omega)).mono ?_
      rintro e wv2 ⟨rfl, bv2, cv2, hv1, hbv2, huv2⟩
      go_wp2_with fail
      with_reducible refine (expand_any (wu.heap.size + 1) bv2 cv2 nm m ns wv2 hv1 hns2 hns3).mono ?_
      rintro e wv ⟨rfl, bv, cv, hv, hbv, huv⟩
      obtain ⟨pv, Hpv⟩ : ∃ pv, Hid (pv = wu.heap.size + 1) := ⟨_, rfl⟩
      have gv1 : wu.heap.size ≤ pv := by rw [Hpv.out]; omega
      have zv1 := huv1.size
      have zv2 := huv2.size
      have gv2 : wu.heap.size ≤ bv := by rcases hbv2 with h | h <;> rcases hbv with h' | h' <;> omega
      have uv : Upd0 wu wv := (huv1.then huv2 (fun i hi h => by omega)).then huv (fun i hi h => by rcases hbv2 with h' | h' <;> omega)
      rw [← Hpv.out] at hv ⊢
      have lv1 := hv.hp
      have lv2 := hv.hb
      have sv := uv.size
      clear hv0 huv1 hzv1 hv1 hbv2 huv2 hbv huv Hpv zv1 zv2
      have hxmv := hxmu.keep0 uv
      have hxav := (hxa5.keep0 uu).keep0 uv
      replace hu := hu.keep0 uv
      have uw := (hu5.trans uu).trans uv
      clear hxmu hxa5 hxm5
      -- A
      -- a number of nm limbs, 0, in slot 5
      go_upto_region 8 with fail
      go_cut [5] (fun t wx => FreshNum wv nm 0 t wx)
      case first => as_aux_lemma =>
        go_wp2_with fail
        have hmq := hxmv.hd
        have hmle := hxmv.le
        have hmsm := hxmv.sm
        have hnew := newNat_drew wv
        replace hnew := Lib.hid hnew
        go_region_with ((first | (go_at_call 59; with_reducible refine hnew.out.mono ?_; rintro e wn ⟨rfl, hxn, hun, hzn⟩; have hmq1 := (hxmv.keep0 hun).hd; have hres := reset_any _ _ _ _ _ nm wn hxn (by omega); replace hres := Lib.hid hres) | (go_at_call 105; with_reducible refine hres.out.mono ?_; rintro e wr2 ⟨rfl, br2, cr2, hxr2, hbr2, hur2⟩)))
        all_goals (go_wp2_with fail; go_meet; exact fresh_reset (w := wv) hzn.out hun hxr2 hbr2 hur2)
      case rest =>
        obtain ⟨pA, bA, cA, rfl, hA, gA1, gA2, lA1, lA2, uA⟩ := hcut
        have cA0 := hA.hd
        have cA1 := hA.own.cell 0 hnm
        have cA2 := hA.own.free 0 hnm
        replace hu := hu.keep0 uA
        replace hv := hv.keep0 uA
        replace hxmv := hxmv.keep0 uA
        replace hxav := hxav.keep0 uA
        replace uw := uw.trans uA
        have zA := uA.size
        have hu1 : Upd (fun k => k = bA) _ _ := (Upd.refl (fun k => k = bA) wc).setCell ⟨bA, 0, none⟩ (.int .u64 ((1 : Nat) : Int)) (fun _ => rfl)
        replace hu := hu.keep hu1 (by omega) (by omega)
        replace hv := hv.keep hu1 (by omega) (by omega)
        replace hxmv := hxmv.keep hu1 (by omega) (by omega)
        replace hxav := hxav.keep hu1 (by omega) (by omega)
        replace hA := hA.setLow hnm 1 (by omega)
        replace uw := uw.then hu1 (fun i hi h => by omega)
        have zA1 := hu1.size
        go_wp2_with fail
        generalize wc.setCell ⟨bA, 0, none⟩ (.int .u64 1) = wA at *
        clear cA0 cA1 cA2 hu1
        -- B
        -- a number of na limbs, 0, in slot 9
        go_upto_region 10 with fail
        go_cut [9] (fun t wx => FreshNum wA na 0 t wx)
        case first => as_aux_lemma =>
          go_wp2_with fail
          have hmq := hxav.hd
          have hmle := hxav.le
          have hmsm := hxav.sm
          have hnew := newNat_drew wA
          replace hnew := Lib.hid hnew
          go_region_with ((first | (go_at_call 59; with_reducible refine hnew.out.mono ?_; rintro e wn ⟨rfl, hxn, hun, hzn⟩; have hmq1 := (hxav.keep0 hun).hd; have hres := reset_any _ _ _ _ _ na wn hxn (by omega); replace hres := Lib.hid hres) | (go_at_call 105; with_reducible refine hres.out.mono ?_; rintro e wr2 ⟨rfl, br2, cr2, hxr2, hbr2, hur2⟩)))
          all_goals (go_wp2_with fail; go_meet; exact fresh_reset (w := wA) hzn.out hun hxr2 hbr2 hur2)
        case rest =>
          obtain ⟨pB, bB, cB, rfl, hB, gB1, gB2, lB1, lB2, uB⟩ := hcut
          replace hu := hu.keep0 uB
          replace hv := hv.keep0 uB
          replace hA := hA.keep0 uB
          replace hxmv := hxmv.keep0 uB
          replace hxav := hxav.keep0 uB
          replace uw := uw.trans uB
          have zB := uB.size
          clear uB
          generalize wc = wB at *
          -- C
          -- a number of nm limbs, 0, in slot 10
          go_upto_region 11 with fail
          go_cut [10] (fun t wx => FreshNum wB nm 0 t wx)
          case first => as_aux_lemma =>
            go_wp2_with fail
            have hmq := hxmv.hd
            have hmle := hxmv.le
            have hmsm := hxmv.sm
            have hnew := newNat_drew wB
            replace hnew := Lib.hid hnew
            go_region_with ((first | (go_at_call 59; with_reducible refine hnew.out.mono ?_; rintro e wn ⟨rfl, hxn, hun, hzn⟩; have hmq1 := (hxmv.keep0 hun).hd; have hres := reset_any _ _ _ _ _ nm wn hxn (by omega); replace hres := Lib.hid hres) | (go_at_call 105; with_reducible refine hres.out.mono ?_; rintro e wr2 ⟨rfl, br2, cr2, hxr2, hbr2, hur2⟩)))
            all_goals (go_wp2_with fail; go_meet; exact fresh_reset (w := wB) hzn.out hun hxr2 hbr2 hur2)
          case rest =>
            obtain ⟨pC, bC, cC, rfl, hC, gC1, gC2, lC1, lC2, uC⟩ := hcut
            replace hu := hu.keep0 uC
            replace hv := hv.keep0 uC
            replace hA := hA.keep0 uC
            replace hB := hB.keep0 uC
            replace hxmv := hxmv.keep0 uC
            replace hxav := hxav.keep0 uC
            replace uw := uw.trans uC
            have zC := uC.size
            clear uC
            generalize wc = wC at *
            -- D
            -- a number of na limbs, 0, in slot 11
            go_upto_region 12 with fail
            go_cut [11] (fun t wx => FreshNum wC na 0 t wx)
            case first => as_aux_lemma =>
              go_wp2_with fail
              have hmq := hxav.hd
              have hmle := hxav.le
              have hmsm := hxav.sm
              have hnew := newNat_drew wC
              replace hnew := Lib.hid hnew
              go_region_with ((first | (go_at_call 59; with_reducible refine hnew.out.mono ?_; rintro e wn ⟨rfl, hxn, hun, hzn⟩; have hmq1 := (hxav.keep0 hun).hd; have hres := reset_any _ _ _ _ _ na wn hxn (by omega); replace hres := Lib.hid hres) | (go_at_call 105; with_reducible refine hres.out.mono ?_; rintro e wr2 ⟨rfl, br2, cr2, hxr2, hbr2, hur2⟩)))
              all_goals (go_wp2_with fail; go_meet; exact fresh_reset (w := wC) hzn.out hun hxr2 hbr2 hur2)
            case rest =>
              obtain ⟨pD, bD, cD, rfl, hD, gD1, gD2, lD1, lD2, uD⟩ := hcut
              replace hu := hu.keep0 uD
              replace hv := hv.keep0 uD
              replace hA := hA.keep0 uD
              replace hB := hB.keep0 uD
              replace hC := hC.keep0 uD
              replace hxmv := hxmv.keep0 uD
              replace hxav := hxav.keep0 uD
              replace uw := uw.trans uD
              have zD := uD.size
              clear uD
              have hsep : G8S pu bu pv bv pA bA pB bB pC bC pD bD pa ba pm bm := by
                constructor <;> (refine ⟨?_, ?_, ?_, ?_, ?_, ?_, ?_, ?_, ?_, ?_, ?_, ?_, ?_, ?_⟩ <;> omega)
              have hgu1 : w.heap.size ≤ pu := by omega
              have hgu2 : w.heap.size ≤ bu := by omega
              have hgA1 : w.heap.size ≤ pA := by omega
              have hgA2 : w.heap.size ≤ bA := by omega
              have cD0 := hD.hd
              have cD1 := hD.own.cell 0 hna
              have cD2 := hD.own.free 0 hna
              have hu1 : Upd (fun k => k = bD) _ _ := (Upd.refl (fun k => k = bD) wc).setCell ⟨bD, 0, none⟩ (.int .u64 ((1 : Nat) : Int)) (fun _ => rfl)
              have hg := (G8.mk hu hv hA hB hC hD hxav hxmv).setD hsep (hD.setLow hna 1 (by omega)) hu1
              replace uw := uw.then hu1 (fun i hi h => by omega)
              have hbl : w.heap.size ≤ bB ∧ w.heap.size ≤ bC ∧ w.heap.size ≤ bD ∧ w.heap.size ≤ bv := by omega
              go_wp2_with fail
              generalize wc.setCell ⟨bD, 0, none⟩ (.int .u64 1) = wD at *
              have hgi := GI.start ha0 hm0 Hod.out
              have hH : GHead w pu bu cu pv bv cv pA bA cA pB bB cB pC bC cC pD bD cD pa ba ca pm bm cm ns na nm a m (a + m) wD := ⟨_, _, _, _, _, _, hg, hgi, hm0, Nat.le_refl _, uw⟩
              clear hu hv hA hB hC hD hxav hxmv hu1 cD0 cD1 cD2 hg hgi uw zA zB zC zD gu1 gu2 gv1 gv2 gA1 gA2 gB1 gB2 gC1 gC2 gD1 gD2 lA1 lA2 lB1 lB2 lC1 lC2 lD1 lD2 zA1 su sv lu1 lu2 lv1 lv2 hz5 uu uv hu5 uA
              clear hxa hxm hna hnm ha0 hm0 Hod hns1 hns2 hns3 sma smm lea lem
              go_loopg [4, 5, 6] (a + m) (fun k s4 s5 s6 wr => s4 = .pointer (some ⟨pu, 0, none⟩) ∧ s5 = .pointer (some ⟨pA, 0, none⟩) ∧ s6 = .nilIface ∧ GHead w pu bu cu pv bv cv pA bA cA pB bB cB pC bC cC pD bD cD pa ba ca pm bm cm ns na nm a m k wr)
              case atStart => exact ⟨rfl, rfl, rfl, hH⟩
              case round =>
                clear hH
                obtain ⟨rfl, rfl, rfl, u, v, A, B, C, D, hg, hgi, hv0, hk, hup⟩ := hrel
                go_upto_region 14 with fail
                go_cut [96] (fun t wx => t = .bool (decide (u % 2 = 1 ∧ v % 2 = 1)) ∧ wr = wx)
                case first => as_aux_lemma =>
                  rcases Nat.mod_two_eq_zero_or_one u with h | h
                  · have o1 := Lib.hid (isOdd_no hg.hu h)
                    clear hg hgi
                    go_wp2_with (first | (go_at_call 135; with_reducible refine o1.out.mono ?_; rintro e w' ⟨rfl, rfl⟩))
                    go_meet
                    exact ⟨by rw [show decide (u % 2 = 1 ∧ v % 2 = 1) = false by rw [h]; simp], rfl⟩
                  · have o1 := Lib.hid (isOdd_yes hg.hu h)
                    rcases Nat.mod_two_eq_zero_or_one v with h' | h'
                    · have o2 := Lib.hid (isOdd_no hg.hv h')
                      clear hg hgi
                      go_wp2_with (first | (go_at_call 135; with_reducible refine o1.out.mono ?_; rintro e w' ⟨rfl, rfl⟩) | (go_at_call 135; with_reducible refine o2.out.mono ?_; rintro e w' ⟨rfl, rfl⟩))
                      go_meet
                      exact ⟨by rw [show decide (u % 2 = 1 ∧ v % 2 = 1) = false by rw [h']; simp], rfl⟩
                    · have o2 := Lib.hid (isOdd_yes hg.hv h')
                      clear hg hgi
                      go_wp2_with (first | (go_at_call 135; with_reducible refine o1.out.mono ?_; rintro e w' ⟨rfl, rfl⟩) | (go_at_call 135; with_reducible refine o2.out.mono ?_; rintro e w' ⟨rfl, rfl⟩))
                      go_meet
                      exact ⟨by rw [show decide (u % 2 = 1 ∧ v % 2 = 1) = true by rw [h, h']; simp], rfl⟩
                case rest =>
                  obtain ⟨rfl, rfl⟩ := hcut
                  go_upto_if 96 with fail
                  go_cut [] (fun wx => GMid w pu bu cu pv bv cv pA bA cA pB bB cB pC bC cC pD bD cD pa ba ca pm bm cm ns na nm a m gk wx)
                  case first => as_aux_lemma =>
                    have hT1 : A + C < m + W64 ^ nm := by have := hgi.bA; have := hgi.bC; have := hg.hm.lt; omega
                    have hT2 : B + D < a + W64 ^ na := by have := hgi.bB; have := hgi.bD; have := hg.ha.lt; omega
                    have hT1' : C + A < m + W64 ^ nm := by omega
                    have hT2' : D + B < a + W64 ^ na := by omega
                    replace hT1 := Lib.hid hT1
                    replace hT2 := Lib.hid hT2
                    replace hT1' := Lib.hid hT1'
                    replace hT2' := Lib.hid hT2'
                    by_cases hb : u % 2 = 1 ∧ v % 2 = 1
                    · have hbd := decide_eq_true hb
                      rw [hbd]
                      by_cases hlt : v < u
                      · as_aux_lemma =>
                        have hge : geN v u = 0 := if_neg (by omega)
                        have k1 := cmpGeq_any pv bv cv ns v pu bu cu u wr hg.hv hg.hu
                        rw [hge] at k1
                        replace k1 := Lib.hid k1
                        replace hbd := Lib.hid hbd
                        replace hge := Lib.hid hge
                        replace hb := Lib.hid hb
                        go_wp2_with fail
                        with_reducible refine k1.out.mono ?_
                        rintro e w1 ⟨rfl, kk, rfl⟩
                        have g1 := hg.keep0 ((Upd.refl _ _).drewN kk)
                        have up1 := hup.drewN kk
                        generalize wr.drewN kk = w1 at *
                        go_wp2_with fail
                        have k2 := sub_any pu bu cu ns u pv bv cv v w1 g1.hu g1.hv (fun h => absurd h hsep.bv_bu)
                        rw [subN_le hg.hu.lt (Nat.le_of_lt hlt)] at k2
                        replace k2 := Lib.hid k2
                        with_reducible refine k2.out.mono ?_
                        rintro e w2 ⟨rfl, hx2, hu2⟩
                        have g2 := g1.setu hsep hx2 hu2
                        have up2 := up1.then hu2 (fun i hi h => by omega)
                        clear g1 up1 hx2 hu2 hg
                        -- A.Add(C, a modulus m)
                        go_wp2_with fail
                        have ua3 : Upd0 w2 (w2.alloc (.cells #[.pointer (some ⟨pm, 0, none⟩), .bool false, .int .u64 0, .pointer none] 95)) := (Upd.refl _ _).alloc _
                        have ga3 := g2.keep0 ua3
                        with_reducible refine (natAdd_any pA bA cA nm A pC bC cC C _ pm bm cm m _ ga3.hA ga3.hC (MNat.boxed g2.hm _) (fun h => absurd h hsep.bC_bA) (Nat.ne_of_gt g2.hA.hb) hsep.pm_bA hsep.bm_bA hT1.out).mono ?_
                        rintro e w3 ⟨rfl, hx3, hu3⟩
                        have g3 := ga3.setA hsep hx3 hu3
                        have up3 := (up2.trans ua3).then hu3 (fun i hi h => by omega)
                        clear g2 ga3 ua3 hx3 hu3 up2
                        -- B.Add(D, a modulus a)
                        go_wp2_with fail
                        have ua4 : Upd0 w3 (w3.alloc (.cells #[.pointer (some ⟨pa, 0, none⟩), .bool false, .int .u64 0, .pointer none] 95)) := (Upd.refl _ _).alloc _
                        have ga4 := g3.keep0 ua4
                        with_reducible refine (natAdd_any pB bB cB na B pD bD cD D _ pa ba ca a _ ga4.hB ga4.hD (MNat.boxed g3.ha _) (fun h => absurd h hsep.bD_bB) (Nat.ne_of_gt g3.hB.hb) hsep.pa_bB hsep.ba_bB hT2.out).mono ?_
                        rintro e w4 ⟨rfl, hx4, hu4⟩
                        have g4 := ga4.setB hsep hx4 hu4
                        have up4 := (up3.trans ua4).then hu4 (fun i hi h => by omega)
                        clear g3 ga4 ua4 hx4 hu4 up3
                        go_wp2_with fail
                        go_meet
                        exact ⟨_, _, _, _, _, _, g4, hgi.subU hb.out.1 hb.out.2 hlt, by have := hb.out; omega, .inl (by omega), up4⟩
                      · as_aux_lemma =>
                        have hge : geN v u = 1 := if_pos (by omega)
                        have hle : u ≤ v := by omega
                        have k1 := cmpGeq_any pv bv cv ns v pu bu cu u wr hg.hv hg.hu
                        rw [hge] at k1
                        replace k1 := Lib.hid k1
                        replace hbd := Lib.hid hbd
                        replace hge := Lib.hid hge
                        replace hb := Lib.hid hb
                        have hT1 := hT1'
                        have hT2 := hT2'
                        go_wp2_with fail
                        with_reducible refine k1.out.mono ?_
                        rintro e w1 ⟨rfl, kk, rfl⟩
                        have g1 := hg.keep0 ((Upd.refl _ _).drewN kk)
                        have up1 := hup.drewN kk
                        generalize wr.drewN kk = w1 at *
                        go_wp2_with fail
                        have k2 := sub_any pv bv cv ns v pu bu cu u w1 g1.hv g1.hu (fun h => absurd h hsep.bu_bv)
                        rw [subN_le hg.hv.lt hle] at k2
                        replace k2 := Lib.hid k2
                        with_reducible refine k2.out.mono ?_
                        rintro e w2 ⟨rfl, hx2, hu2⟩
                        have g2 := g1.setv hsep hx2 hu2
                        have up2 := up1.then hu2 (fun i hi h => by omega)
                        clear g1 up1 hx2 hu2 hg
                        -- C.Add(A, a modulus m)
                        go_wp2_with fail
                        have ua3 : Upd0 w2 (w2.alloc (.cells #[.pointer (some ⟨pm, 0, none⟩), .bool false, .int .u64 0, .pointer none] 95)) := (Upd.refl _ _).alloc _
                        have ga3 := g2.keep0 ua3
                        with_reducible refine (natAdd_any pC bC cC nm C pA bA cA A _ pm bm cm m _ ga3.hC ga3.hA (MNat.boxed g2.hm _) (fun h => absurd h hsep.bA_bC) (Nat.ne_of_gt g2.hC.hb) hsep.pm_bC hsep.bm_bC hT1.out).mono ?_
                        rintro e w3 ⟨rfl, hx3, hu3⟩
                        have g3 := ga3.setC hsep hx3 hu3
                        have up3 := (up2.trans ua3).then hu3 (fun i hi h => by omega)
                        clear g2 ga3 ua3 hx3 hu3 up2
                        -- D.Add(B, a modulus a)
                        go_wp2_with fail
                        have ua4 : Upd0 w3 (w3.alloc (.cells #[.pointer (some ⟨pa, 0, none⟩), .bool false, .int .u64 0, .pointer none] 95)) := (Upd.refl _ _).alloc _
                        have ga4 := g3.keep0 ua4
                        with_reducible refine (natAdd_any pD bD cD na D pB bB cB B _ pa ba ca a _ ga4.hD ga4.hB (MNat.boxed g3.ha _) (fun h => absurd h hsep.bB_bD) (Nat.ne_of_gt g3.hD.hb) hsep.pa_bD hsep.ba_bD hT2.out).mono ?_
                        rintro e w4 ⟨rfl, hx4, hu4⟩
                        have g4 := ga4.setD hsep hx4 hu4
                        have up4 := (up3.trans ua4).then hu4 (fun i hi h => by omega)
                        clear g3 ga4 ua4 hx4 hu4 up3
                        go_wp2_with fail
                        go_meet
                        exact ⟨_, _, _, _, _, _, g4, hgi.subV hb.out.1 hb.out.2 hle, by have := hb.out; omega, .inl (by have := hgi.u0; omega), up4⟩
                    · have hbd := decide_eq_false hb
                      rw [hbd]
                      go_wp2_with fail
                      go_meet
                      exact ⟨u, v, A, B, C, D, hg, hgi, by have := hgi.par; omega, .inr ⟨hv0, by omega⟩, hup⟩
                  case rest =>
                    clear hg hgi hup hk hv0
                    obtain ⟨u2, v2, A2, B2, C2, D2, hg2, hgi2, hne2, hk2, hup2⟩ := hcut
                    generalize wc = w5 at *
                    rcases Nat.mod_two_eq_zero_or_one u2 with h | h
                    · as_aux_lemma =>
                      have h' : v2 % 2 = 1 := by omega
                      have hvp : 0 < v2 := by omega
                      have hu0 := hgi2.u0
                      have o1 := Lib.hid (isOdd_no hg2.hu h)
                      have o2 := Lib.hid (isOdd_yes hg2.hv h')
                      have gi6 := hgi2.halfU h
                      clear h h' hgi2 hne2
                      go_upto_region 25 with (first | (go_at_call 135; with_reducible refine o1.out.mono ?_; rintro e w' ⟨rfl, rfl⟩) | (go_at_call 135; with_reducible refine o2.out.mono ?_; rintro e w' ⟨rfl, rfl⟩))
                      go_wp2_with fail
                      with_reducible refine (rshift_half hg2.hu).mono ?_
                      rintro e w6 ⟨rfl, hx6, hu6⟩
                      have g6 := hg2.setu hsep hx6 hu6
                      have up6 := hup2.then hu6 (fun i hi h => by omega)
                      clear o1 o2 hg2 hx6 hu6 hup2
                      -- the tail behind the halving of UU: PP, QQ are its numbers
                      have hp1 : A2 % 2 = 0 ∨ A2 % 2 = 1 := Nat.mod_two_eq_zero_or_one A2
                      rcases hp1 with hp1 | hp1
                      · have q1 := Lib.hid (isOdd_no g6.hA hp1)
                        have hp2 : B2 % 2 = 0 ∨ B2 % 2 = 1 := Nat.mod_two_eq_zero_or_one B2
                        rcases hp2 with hp2 | hp2
                        · have q2 := Lib.hid (isOdd_no g6.hB hp2)
                          have HF1 : Hid (hfN A2 B2 m = A2 / 2) := if_neg (by omega)
                          have HF2 : Hid (hfN B2 A2 a = B2 / 2) := if_neg (by omega)
                          rw [HF1.out, HF2.out] at gi6
                          clear hp1 hp2
                          go_wp2_with (first | (go_at_call 135; with_reducible refine q1.out.mono ?_; rintro e w' ⟨rfl, rfl⟩) | (go_at_call 135; with_reducible refine q2.out.mono ?_; rintro e w' ⟨rfl, rfl⟩))
                          go_wp2_with fail
                          with_reducible refine (rshift_half g6.hA).mono ?_
                          rintro e wA2 ⟨rfl, hxA2, huA2⟩
                          have gA2 := g6.setA hsep hxA2 huA2
                          have upA2 := up6.then huA2 (fun i hi h => by omega)
                          clear hxA2 huA2
                          go_wp2_with fail
                          with_reducible refine (rshift_half gA2.hB).mono ?_
                          rintro e wB2 ⟨rfl, hxB2, huB2⟩
                          have gB2 := gA2.setB hsep hxB2 huB2
                          have upB2 := upA2.then huB2 (fun i hi h => by omega)
                          clear hxB2 huB2
                          -- v is not 0: another round
                          have z9 := Lib.hid (isZero_no gB2.hv hvp)
                          go_wp2_with (first | (go_at_call 134; with_reducible refine z9.out.mono ?_; rintro e w' ⟨rfl, rfl⟩))
                          go_roundg (u2 / 2 + v2)
                          case measure => omega
                          case rel => exact ⟨rfl, rfl, rfl, _, _, _, _, _, _, gB2, gi6, hvp, Nat.le_refl _, upB2⟩
                        · have q2 := Lib.hid (isOdd_yes g6.hB hp2)
                          have HF1 : Hid (hfN A2 B2 m = (A2 + m) / 2) := if_pos (by omega)
                          have HF2 : Hid (hfN B2 A2 a = (B2 + a) / 2) := if_pos (by omega)
                          rw [HF1.out, HF2.out] at gi6
                          clear hp1 hp2
                          go_wp2_with (first | (go_at_call 135; with_reducible refine q1.out.mono ?_; rintro e w' ⟨rfl, rfl⟩) | (go_at_call 135; with_reducible refine q2.out.mono ?_; rintro e w' ⟨rfl, rfl⟩))
                          -- A is odd, or QQ is: both are added to and halved
                          go_wp2_with fail
                          with_reducible refine (add_any pA bA cA nm A2 pm bm cm m _ g6.hA g6.hm (fun h => absurd h hsep.bm_bA)).mono ?_
                          rintro e wA1 ⟨rfl, hxA1, huA1⟩
                          have gA1 := g6.setA hsep hxA1 huA1
                          have upA1 := up6.then huA1 (fun i hi h => by omega)
                          go_wp2_with fail
                          with_reducible refine (rshift_sum gA1.hA g6.hA.lt g6.hm.lt).mono ?_
                          rintro e wA2 ⟨rfl, hxA2, huA2⟩
                          have gA2 := gA1.setA hsep hxA2 huA2
                          have upA2 := upA1.then huA2 (fun i hi h => by omega)
                          clear gA1 upA1 hxA1 huA1 hxA2 huA2
                          -- B is odd, or QQ is: both are added to and halved
                          go_wp2_with fail
                          with_reducible refine (add_any pB bB cB na B2 pa ba ca a _ gA2.hB gA2.ha (fun h => absurd h hsep.ba_bB)).mono ?_
                          rintro e wB1 ⟨rfl, hxB1, huB1⟩
                          have gB1 := gA2.setB hsep hxB1 huB1
                          have upB1 := upA2.then huB1 (fun i hi h => by omega)
                          go_wp2_with fail
                          with_reducible refine (rshift_sum gB1.hB gA2.hB.lt gA2.ha.lt).mono ?_
                          rintro e wB2 ⟨rfl, hxB2, huB2⟩
                          have gB2 := gB1.setB hsep hxB2 huB2
                          have upB2 := upB1.then huB2 (fun i hi h => by omega)
                          clear gB1 upB1 hxB1 huB1 hxB2 huB2
                          -- v is not 0: another round
                          have z9 := Lib.hid (isZero_no gB2.hv hvp)
                          go_wp2_with (first | (go_at_call 134; with_reducible refine z9.out.mono ?_; rintro e w' ⟨rfl, rfl⟩))
                          go_roundg (u2 / 2 + v2)
                          case measure => omega
                          case rel => exact ⟨rfl, rfl, rfl, _, _, _, _, _, _, gB2, gi6, hvp, Nat.le_refl _, upB2⟩
                      · have q1 := Lib.hid (isOdd_yes g6.hA hp1)
                        have HF1 : Hid (hfN A2 B2 m = (A2 + m) / 2) := if_pos (by omega)
                        have HF2 : Hid (hfN B2 A2 a = (B2 + a) / 2) := if_pos (by omega)
                        rw [HF1.out, HF2.out] at gi6
                        clear hp1
                        go_wp2_with (first | (go_at_call 135; with_reducible refine q1.out.mono ?_; rintro e w' ⟨rfl, rfl⟩))
                        -- A is odd, or QQ is: both are added to and halved
                        go_wp2_with fail
                        with_reducible refine (add_any pA bA cA nm A2 pm bm cm m _ g6.hA g6.hm (fun h => absurd h hsep.bm_bA)).mono ?_
                        rintro e wA1 ⟨rfl, hxA1, huA1⟩
                        have gA1 := g6.setA hsep hxA1 huA1
                        have upA1 := up6.then huA1 (fun i hi h => by omega)
                        go_wp2_with fail
                        with_reducible refine (rshift_sum gA1.hA g6.hA.lt g6.hm.lt).mono ?_
                        rintro e wA2 ⟨rfl, hxA2, huA2⟩
                        have gA2 := gA1.setA hsep hxA2 huA2
                        have upA2 := upA1.then huA2 (fun i hi h => by omega)
                        clear gA1 upA1 hxA1 huA1 hxA2 huA2
                        -- B is odd, or QQ is: both are added to and halved
                        go_wp2_with fail
                        with_reducible refine (add_any pB bB cB na B2 pa ba ca a _ gA2.hB gA2.ha (fun h => absurd h hsep.ba_bB)).mono ?_
                        rintro e wB1 ⟨rfl, hxB1, huB1⟩
                        have gB1 := gA2.setB hsep hxB1 huB1
                        have upB1 := upA2.then huB1 (fun i hi h => by omega)
                        go_wp2_with fail
                        with_reducible refine (rshift_sum gB1.hB gA2.hB.lt gA2.ha.lt).mono ?_
                        rintro e wB2 ⟨rfl, hxB2, huB2⟩
                        have gB2 := gB1.setB hsep hxB2 huB2
                        have upB2 := upB1.then huB2 (fun i hi h => by omega)
                        clear gB1 upB1 hxB1 huB1 hxB2 huB2
                        -- v is not 0: another round
                        have z9 := Lib.hid (isZero_no gB2.hv hvp)
                        go_wp2_with (first | (go_at_call 134; with_reducible refine z9.out.mono ?_; rintro e w' ⟨rfl, rfl⟩))
                        go_roundg (u2 / 2 + v2)
                        case measure => omega
                        case rel => exact ⟨rfl, rfl, rfl, _, _, _, _, _, _, gB2, gi6, hvp, Nat.le_refl _, upB2⟩
                    · as_aux_lemma =>
                      have h' : v2 % 2 = 0 := by omega
                      have hu0 := hgi2.u0
                      have o1 := Lib.hid (isOdd_yes hg2.hu h)
                      have o2 := Lib.hid (isOdd_no hg2.hv h')
                      have gi6 := hgi2.halfV h'
                      clear h h' hgi2 hne2
                      go_upto_region 31 with (first | (go_at_call 135; with_reducible refine o1.out.mono ?_; rintro e w' ⟨rfl, rfl⟩) | (go_at_call 135; with_reducible refine o2.out.mono ?_; rintro e w' ⟨rfl, rfl⟩))
                      go_wp2_with fail
                      with_reducible refine (rshift_half hg2.hv).mono ?_
                      rintro e w6 ⟨rfl, hx6, hu6⟩
                      have g6 := hg2.setv hsep hx6 hu6
                      have up6 := hup2.then hu6 (fun i hi h => by omega)
                      clear o1 o2 hg2 hx6 hu6 hup2
                      -- the tail behind the halving of UU: PP, QQ are its numbers
                      have hp1 : C2 % 2 = 0 ∨ C2 % 2 = 1 := Nat.mod_two_eq_zero_or_one C2
                      rcases hp1 with hp1 | hp1
                      · have q1 := Lib.hid (isOdd_no g6.hC hp1)
                        have hp2 : D2 % 2 = 0 ∨ D2 % 2 = 1 := Nat.mod_two_eq_zero_or_one D2
                        rcases hp2 with hp2 | hp2
                        · have q2 := Lib.hid (isOdd_no g6.hD hp2)
                          have HF1 : Hid (hfN C2 D2 m = C2 / 2) := if_neg (by omega)
                          have HF2 : Hid (hfN D2 C2 a = D2 / 2) := if_neg (by omega)
                          rw [HF1.out, HF2.out] at gi6
                          clear hp1 hp2
                          go_wp2_with (first | (go_at_call 135; with_reducible refine q1.out.mono ?_; rintro e w' ⟨rfl, rfl⟩) | (go_at_call 135; with_reducible refine q2.out.mono ?_; rintro e w' ⟨rfl, rfl⟩))
                          go_wp2_with fail
                          with_reducible refine (rshift_half g6.hC).mono ?_
                          rintro e wC2 ⟨rfl, hxC2, huC2⟩
                          have gC2 := g6.setC hsep hxC2 huC2
                          have upC2 := up6.then huC2 (fun i hi h => by omega)
                          clear hxC2 huC2
                          go_wp2_with fail
                          with_reducible refine (rshift_half gC2.hD).mono ?_
                          rintro e wD2 ⟨rfl, hxD2, huD2⟩
                          have gD2 := gC2.setD hsep hxD2 huD2
                          have upD2 := upC2.then huD2 (fun i hi h => by omega)
                          clear hxD2 huD2
                          rcases Nat.eq_zero_or_pos (v2 / 2) with hz | hz
                          · have hq0 := gD2.hv
                            rw [hz] at hq0 gi6
                            have z9 := Lib.hid (isZero_yes hq0)
                            have hqu := gD2.hu
                            have hqA := gD2.hA
                            obtain ⟨hd1, hd2⟩ := gi6.done
                            rw [hd1] at hqu hd2
                            have HD2 := Lib.hid hd2
                            clear gD2 gi6 hd1 hd2 hz
                            go_wp2_with (first | (go_at_call 134; with_reducible refine z9.out.mono ?_; rintro e w' ⟨rfl, rfl⟩))
                            go_ret3
                            exact ⟨pu, bu, cu, pA, bA, cA, A2, rfl, hqu, hqA, HD2.out, hgu1, hgu2, hgA1, hgA2, upD2⟩
                          · skip
                            -- v is not 0: another round
                            have z9 := Lib.hid (isZero_no gD2.hv hz)
                            go_wp2_with (first | (go_at_call 134; with_reducible refine z9.out.mono ?_; rintro e w' ⟨rfl, rfl⟩))
                            go_roundg (u2 + v2 / 2)
                            case measure => omega
                            case rel => exact ⟨rfl, rfl, rfl, _, _, _, _, _, _, gD2, gi6, hz, Nat.le_refl _, upD2⟩
                        · have q2 := Lib.hid (isOdd_yes g6.hD hp2)
                          have HF1 : Hid (hfN C2 D2 m = (C2 + m) / 2) := if_pos (by omega)
                          have HF2 : Hid (hfN D2 C2 a = (D2 + a) / 2) := if_pos (by omega)
                          rw [HF1.out, HF2.out] at gi6
                          clear hp1 hp2
                          go_wp2_with (first | (go_at_call 135; with_reducible refine q1.out.mono ?_; rintro e w' ⟨rfl, rfl⟩) | (go_at_call 135; with_reducible refine q2.out.mono ?_; rintro e w' ⟨rfl, rfl⟩))
                          -- C is odd, or QQ is: both are added to and halved
                          go_wp2_with fail
                          with_reducible refine (add_any pC bC cC nm C2 pm bm cm m _ g6.hC g6.hm (fun h => absurd h hsep.bm_bC)).mono ?_
                          rintro e wC1 ⟨rfl, hxC1, huC1⟩
                          have gC1 := g6.setC hsep hxC1 huC1
                          have upC1 := up6.then huC1 (fun i hi h => by omega)
                          go_wp2_with fail
                          with_reducible refine (rshift_sum gC1.hC g6.hC.lt g6.hm.lt).mono ?_
                          rintro e wC2 ⟨rfl, hxC2, huC2⟩
                          have gC2 := gC1.setC hsep hxC2 huC2
                          have upC2 := upC1.then huC2 (fun i hi h => by omega)
                          clear gC1 upC1 hxC1 huC1 hxC2 huC2
                          -- D is odd, or QQ is: both are added to and halved
                          go_wp2_with fail
                          with_reducible refine (add_any pD bD cD na D2 pa ba ca a _ gC2.hD gC2.ha (fun h => absurd h hsep.ba_bD)).mono ?_
                          rintro e wD1 ⟨rfl, hxD1, huD1⟩
                          have gD1 := gC2.setD hsep hxD1 huD1
                          have upD1 := upC2.then huD1 (fun i hi h => by omega)
                          go_wp2_with fail
                          with_reducible refine (rshift_sum gD1.hD gC2.hD.lt gC2.ha.lt).mono ?_
                          rintro e wD2 ⟨rfl, hxD2, huD2⟩
                          have gD2 := gD1.setD hsep hxD2 huD2
                          have upD2 := upD1.then huD2 (fun i hi h => by omega)
                          clear gD1 upD1 hxD1 huD1 hxD2 huD2
                          rcases Nat.eq_zero_or_pos (v2 / 2) with hz | hz
                          · have hq0 := gD2.hv
                            rw [hz] at hq0 gi6
                            have z9 := Lib.hid (isZero_yes hq0)
                            have hqu := gD2.hu
                            have hqA := gD2.hA
                            obtain ⟨hd1, hd2⟩ := gi6.done
                            rw [hd1] at hqu hd2
                            have HD2 := Lib.hid hd2
                            clear gD2 gi6 hd1 hd2 hz
                            go_wp2_with (first | (go_at_call 134; with_reducible refine z9.out.mono ?_; rintro e w' ⟨rfl, rfl⟩))
                            go_ret3
                            exact ⟨pu, bu, cu, pA, bA, cA, A2, rfl, hqu, hqA, HD2.out, hgu1, hgu2, hgA1, hgA2, upD2⟩
                          · skip
                            -- v is not 0: another round
                            have z9 := Lib.hid (isZero_no gD2.hv hz)
                            go_wp2_with (first | (go_at_call 134; with_reducible refine z9.out.mono ?_; rintro e w' ⟨rfl, rfl⟩))
                            go_roundg (u2 + v2 / 2)
                            case measure => omega
                            case rel => exact ⟨rfl, rfl, rfl, _, _, _, _, _, _, gD2, gi6, hz, Nat.le_refl _, upD2⟩
                      · have q1 := Lib.hid (isOdd_yes g6.hC hp1)
                        have HF1 : Hid (hfN C2 D2 m = (C2 + m) / 2) := if_pos (by omega)
                        have HF2 : Hid (hfN D2 C2 a = (D2 + a) / 2) := if_pos (by omega)
                        rw [HF1.out, HF2.out] at gi6
                        clear hp1
                        go_wp2_with (first | (go_at_call 135; with_reducible refine q1.out.mono ?_; rintro e w' ⟨rfl, rfl⟩))
                        -- C is odd, or QQ is: both are added to and halved
                        go_wp2_with fail
                        with_reducible refine (add_any pC bC cC nm C2 pm bm cm m _ g6.hC g6.hm (fun h => absurd h hsep.bm_bC)).mono ?_
                        rintro e wC1 ⟨rfl, hxC1, huC1⟩
                        have gC1 := g6.setC hsep hxC1 huC1
                        have upC1 := up6.then huC1 (fun i hi h => by omega)
                        go_wp2_with fail
                        with_reducible refine (rshift_sum gC1.hC g6.hC.lt g6.hm.lt).mono ?_
                        rintro e wC2 ⟨rfl, hxC2, huC2⟩
                        have gC2 := gC1.setC hsep hxC2 huC2
                        have upC2 := upC1.then huC2 (fun i hi h => by omega)
                        clear gC1 upC1 hxC1 huC1 hxC2 huC2
                        -- D is odd, or QQ is: both are added to and halved
                        go_wp2_with fail
                        with_reducible refine (add_any pD bD cD na D2 pa ba ca a _ gC2.hD gC2.ha (fun h => absurd h hsep.ba_bD)).mono ?_
                        rintro e wD1 ⟨rfl, hxD1, huD1⟩
                        have gD1 := gC2.setD hsep hxD1 huD1
                        have upD1 := upC2.then huD1 (fun i hi h => by omega)
                        go_wp2_with fail
                        with_reducible refine (rshift_sum gD1.hD gC2.hD.lt gC2.ha.lt).mono ?_
                        rintro e wD2 ⟨rfl, hxD2, huD2⟩
                        have gD2 := gD1.setD hsep hxD2 huD2
                        have upD2 := upD1.then huD2 (fun i hi h => by omega)
                        clear gD1 upD1 hxD1 huD1 hxD2 huD2
                        rcases Nat.eq_zero_or_pos (v2 / 2) with hz | hz
                        · have hq0 := gD2.hv
                          rw [hz] at hq0 gi6
                          have z9 := Lib.hid (isZero_yes hq0)
                          have hqu := gD2.hu
                          have hqA := gD2.hA
                          obtain ⟨hd1, hd2⟩ := gi6.done
                          rw [hd1] at hqu hd2
                          have HD2 := Lib.hid hd2
                          clear gD2 gi6 hd1 hd2 hz
                          go_wp2_with (first | (go_at_call 134; with_reducible refine z9.out.mono ?_; rintro e w' ⟨rfl, rfl⟩))
                          go_ret3
                          exact ⟨pu, bu, cu, pA, bA, cA, A2, rfl, hqu, hqA, HD2.out, hgu1, hgu2, hgA1, hgA2, upD2⟩
                        · skip
                          -- v is not 0: another round
                          have z9 := Lib.hid (isZero_no gD2.hv hz)
                          go_wp2_with (first | (go_at_call 134; with_reducible refine z9.out.mono ?_; rintro e w' ⟨rfl, rfl⟩))
                          go_roundg (u2 + v2 / 2)
                          case measure => omega
                          case rel => exact ⟨rfl, rfl, rfl, _, _, _, _, _, _, gD2, gi6, hz, Nat.le_refl _, upD2⟩
end Go.Proofs.Ytpojonfopoobpaa
