/-
  Contracts: errors.New, extendedGCD.
-/
import Derived.Test.YtgdjhkmofedhpaaDoorPlain
import Derived.Test.YtgdjhkmofedhpaaDoorNatJ
import Derived.Test.YtgdjhkmofedhpaaDoorNatD
import Derived.Deep.DeepCutAuto
import Derived.Deep.CutBlock
namespace Go.Proofs.YtgdjhkmofedhpaaDoor
open Go.RowKit

/-- The eight numbers of extendedGCD. -/
structure G8 (w : World) (pu bu cu pv bv cv pA bA cA pB bB cB pC bC cC pD bD cD pa ba ca pm bm cm ns na nm : Nat) (u v A B C D a m : Nat) : Prop where
  hu : NatAt w pu bu cu ns u
  hv : NatAt w pv bv cv ns v
  hA : NatAt w pA bA cA nm A
  hB : NatAt w pB bB cB na B
  hC : NatAt w pC bC cC nm C
  hD : NatAt w pD bD cD na D
  ha : NatAt w pa ba ca na a
  hm : NatAt w pm bm cm nm m
/-- Their blocks are apart. -/
structure G8S (pu bu pv bv pA bA pB bB pC bC pD bD pa ba pm bm : Nat) : Prop where
  su : pv ≠ bu ∧ bv ≠ bu ∧ pA ≠ bu ∧ bA ≠ bu ∧ pB ≠ bu ∧ bB ≠ bu ∧ pC ≠ bu ∧ bC ≠ bu ∧ pD ≠ bu ∧ bD ≠ bu ∧ pa ≠ bu ∧ ba ≠ bu ∧ pm ≠ bu ∧ bm ≠ bu
  sv : pu ≠ bv ∧ bu ≠ bv ∧ pA ≠ bv ∧ bA ≠ bv ∧ pB ≠ bv ∧ bB ≠ bv ∧ pC ≠ bv ∧ bC ≠ bv ∧ pD ≠ bv ∧ bD ≠ bv ∧ pa ≠ bv ∧ ba ≠ bv ∧ pm ≠ bv ∧ bm ≠ bv
  sA : pu ≠ bA ∧ bu ≠ bA ∧ pv ≠ bA ∧ bv ≠ bA ∧ pB ≠ bA ∧ bB ≠ bA ∧ pC ≠ bA ∧ bC ≠ bA ∧ pD ≠ bA ∧ bD ≠ bA ∧ pa ≠ bA ∧ ba ≠ bA ∧ pm ≠ bA ∧ bm ≠ bA
  sB : pu ≠ bB ∧ bu ≠ bB ∧ pv ≠ bB ∧ bv ≠ bB ∧ pA ≠ bB ∧ bA ≠ bB ∧ pC ≠ bB ∧ bC ≠ bB ∧ pD ≠ bB ∧ bD ≠ bB ∧ pa ≠ bB ∧ ba ≠ bB ∧ pm ≠ bB ∧ bm ≠ bB
  sC : pu ≠ bC ∧ bu ≠ bC ∧ pv ≠ bC ∧ bv ≠ bC ∧ pA ≠ bC ∧ bA ≠ bC ∧ pB ≠ bC ∧ bB ≠ bC ∧ pD ≠ bC ∧ bD ≠ bC ∧ pa ≠ bC ∧ ba ≠ bC ∧ pm ≠ bC ∧ bm ≠ bC
  sD : pu ≠ bD ∧ bu ≠ bD ∧ pv ≠ bD ∧ bv ≠ bD ∧ pA ≠ bD ∧ bA ≠ bD ∧ pB ≠ bD ∧ bB ≠ bD ∧ pC ≠ bD ∧ bC ≠ bD ∧ pa ≠ bD ∧ ba ≠ bD ∧ pm ≠ bD ∧ bm ≠ bD
theorem G8.keep0 {w w' : World} {pu bu cu pv bv cv pA bA cA pB bB cB pC bC cC pD bD cD pa ba ca pm bm cm ns na nm : Nat} {u v A B C D a m : Nat} (g : G8 w pu bu cu pv bv cv pA bA cA pB bB cB pC bC cC pD bD cD pa ba ca pm bm cm ns na nm u v A B C D a m) (hu : Upd0 w w') : G8 w' pu bu cu pv bv cv pA bA cA pB bB cB pC bC cC pD bD cD pa ba ca pm bm cm ns na nm u v A B C D a m :=
  ⟨g.hu.keep0 hu, g.hv.keep0 hu, g.hA.keep0 hu, g.hB.keep0 hu, g.hC.keep0 hu, g.hD.keep0 hu, g.ha.keep0 hu, g.hm.keep0 hu⟩
theorem G8.setu {w w' : World} {pu bu cu pv bv cv pA bA cA pB bB cB pC bC cC pD bD cD pa ba ca pm bm cm ns na nm : Nat} {u v A B C D a m u' : Nat} (g : G8 w pu bu cu pv bv cv pA bA cA pB bB cB pC bC cC pD bD cD pa ba ca pm bm cm ns na nm u v A B C D a m) (s : G8S pu bu pv bv pA bA pB bB pC bC pD bD pa ba pm bm) (hx : NatAt w' pu bu cu ns u') (hu : Upd (fun k => k = bu) w w') : G8 w' pu bu cu pv bv cv pA bA cA pB bB cB pC bC cC pD bD cD pa ba ca pm bm cm ns na nm u' v A B C D a m :=
  ⟨hx, g.hv.keep hu s.su.1 s.su.2.1, g.hA.keep hu s.su.2.2.1 s.su.2.2.2.1, g.hB.keep hu s.su.2.2.2.2.1 s.su.2.2.2.2.2.1, g.hC.keep hu s.su.2.2.2.2.2.2.1 s.su.2.2.2.2.2.2.2.1, g.hD.keep hu s.su.2.2.2.2.2.2.2.2.1 s.su.2.2.2.2.2.2.2.2.2.1, g.ha.keep hu s.su.2.2.2.2.2.2.2.2.2.2.1 s.su.2.2.2.2.2.2.2.2.2.2.2.1, g.hm.keep hu s.su.2.2.2.2.2.2.2.2.2.2.2.2.1 s.su.2.2.2.2.2.2.2.2.2.2.2.2.2⟩
theorem G8.setv {w w' : World} {pu bu cu pv bv cv pA bA cA pB bB cB pC bC cC pD bD cD pa ba ca pm bm cm ns na nm : Nat} {u v A B C D a m v' : Nat} (g : G8 w pu bu cu pv bv cv pA bA cA pB bB cB pC bC cC pD bD cD pa ba ca pm bm cm ns na nm u v A B C D a m) (s : G8S pu bu pv bv pA bA pB bB pC bC pD bD pa ba pm bm) (hx : NatAt w' pv bv cv ns v') (hu : Upd (fun k => k = bv) w w') : G8 w' pu bu cu pv bv cv pA bA cA pB bB cB pC bC cC pD bD cD pa ba ca pm bm cm ns na nm u v' A B C D a m :=
  ⟨g.hu.keep hu s.sv.1 s.sv.2.1, hx, g.hA.keep hu s.sv.2.2.1 s.sv.2.2.2.1, g.hB.keep hu s.sv.2.2.2.2.1 s.sv.2.2.2.2.2.1, g.hC.keep hu s.sv.2.2.2.2.2.2.1 s.sv.2.2.2.2.2.2.2.1, g.hD.keep hu s.sv.2.2.2.2.2.2.2.2.1 s.sv.2.2.2.2.2.2.2.2.2.1, g.ha.keep hu s.sv.2.2.2.2.2.2.2.2.2.2.1 s.sv.2.2.2.2.2.2.2.2.2.2.2.1, g.hm.keep hu s.sv.2.2.2.2.2.2.2.2.2.2.2.2.1 s.sv.2.2.2.2.2.2.2.2.2.2.2.2.2⟩
theorem G8.setA {w w' : World} {pu bu cu pv bv cv pA bA cA pB bB cB pC bC cC pD bD cD pa ba ca pm bm cm ns na nm : Nat} {u v A B C D a m A' : Nat} (g : G8 w pu bu cu pv bv cv pA bA cA pB bB cB pC bC cC pD bD cD pa ba ca pm bm cm ns na nm u v A B C D a m) (s : G8S pu bu pv bv pA bA pB bB pC bC pD bD pa ba pm bm) (hx : NatAt w' pA bA cA nm A') (hu : Upd (fun k => k = bA) w w') : G8 w' pu bu cu pv bv cv pA bA cA pB bB cB pC bC cC pD bD cD pa ba ca pm bm cm ns na nm u v A' B C D a m :=
  ⟨g.hu.keep hu s.sA.1 s.sA.2.1, g.hv.keep hu s.sA.2.2.1 s.sA.2.2.2.1, hx, g.hB.keep hu s.sA.2.2.2.2.1 s.sA.2.2.2.2.2.1, g.hC.keep hu s.sA.2.2.2.2.2.2.1 s.sA.2.2.2.2.2.2.2.1, g.hD.keep hu s.sA.2.2.2.2.2.2.2.2.1 s.sA.2.2.2.2.2.2.2.2.2.1, g.ha.keep hu s.sA.2.2.2.2.2.2.2.2.2.2.1 s.sA.2.2.2.2.2.2.2.2.2.2.2.1, g.hm.keep hu s.sA.2.2.2.2.2.2.2.2.2.2.2.2.1 s.sA.2.2.2.2.2.2.2.2.2.2.2.2.2⟩
theorem G8.setB {w w' : World} {pu bu cu pv bv cv pA bA cA pB bB cB pC bC cC pD bD cD pa ba ca pm bm cm ns na nm : Nat} {u v A B C D a m B' : Nat} (g : G8 w pu bu cu pv bv cv pA bA cA pB bB cB pC bC cC pD bD cD pa ba ca pm bm cm ns na nm u v A B C D a m) (s : G8S pu bu pv bv pA bA pB bB pC bC pD bD pa ba pm bm) (hx : NatAt w' pB bB cB na B') (hu : Upd (fun k => k = bB) w w') : G8 w' pu bu cu pv bv cv pA bA cA pB bB cB pC bC cC pD bD cD pa ba ca pm bm cm ns na nm u v A B' C D a m :=
  ⟨g.hu.keep hu s.sB.1 s.sB.2.1, g.hv.keep hu s.sB.2.2.1 s.sB.2.2.2.1, g.hA.keep hu s.sB.2.2.2.2.1 s.sB.2.2.2.2.2.1, hx, g.hC.keep hu s.sB.2.2.2.2.2.2.1 s.sB.2.2.2.2.2.2.2.1, g.hD.keep hu s.sB.2.2.2.2.2.2.2.2.1 s.sB.2.2.2.2.2.2.2.2.2.1, g.ha.keep hu s.sB.2.2.2.2.2.2.2.2.2.2.1 s.sB.2.2.2.2.2.2.2.2.2.2.2.1, g.hm.keep hu s.sB.2.2.2.2.2.2.2.2.2.2.2.2.1 s.sB.2.2.2.2.2.2.2.2.2.2.2.2.2⟩
theorem G8.setC {w w' : World} {pu bu cu pv bv cv pA bA cA pB bB cB pC bC cC pD bD cD pa ba ca pm bm cm ns na nm : Nat} {u v A B C D a m C' : Nat} (g : G8 w pu bu cu pv bv cv pA bA cA pB bB cB pC bC cC pD bD cD pa ba ca pm bm cm ns na nm u v A B C D a m) (s : G8S pu bu pv bv pA bA pB bB pC bC pD bD pa ba pm bm) (hx : NatAt w' pC bC cC nm C') (hu : Upd (fun k => k = bC) w w') : G8 w' pu bu cu pv bv cv pA bA cA pB bB cB pC bC cC pD bD cD pa ba ca pm bm cm ns na nm u v A B C' D a m :=
  ⟨g.hu.keep hu s.sC.1 s.sC.2.1, g.hv.keep hu s.sC.2.2.1 s.sC.2.2.2.1, g.hA.keep hu s.sC.2.2.2.2.1 s.sC.2.2.2.2.2.1, g.hB.keep hu s.sC.2.2.2.2.2.2.1 s.sC.2.2.2.2.2.2.2.1, hx, g.hD.keep hu s.sC.2.2.2.2.2.2.2.2.1 s.sC.2.2.2.2.2.2.2.2.2.1, g.ha.keep hu s.sC.2.2.2.2.2.2.2.2.2.2.1 s.sC.2.2.2.2.2.2.2.2.2.2.2.1, g.hm.keep hu s.sC.2.2.2.2.2.2.2.2.2.2.2.2.1 s.sC.2.2.2.2.2.2.2.2.2.2.2.2.2⟩
theorem G8.setD {w w' : World} {pu bu cu pv bv cv pA bA cA pB bB cB pC bC cC pD bD cD pa ba ca pm bm cm ns na nm : Nat} {u v A B C D a m D' : Nat} (g : G8 w pu bu cu pv bv cv pA bA cA pB bB cB pC bC cC pD bD cD pa ba ca pm bm cm ns na nm u v A B C D a m) (s : G8S pu bu pv bv pA bA pB bB pC bC pD bD pa ba pm bm) (hx : NatAt w' pD bD cD na D') (hu : Upd (fun k => k = bD) w w') : G8 w' pu bu cu pv bv cv pA bA cA pB bB cB pC bC cC pD bD cD pa ba ca pm bm cm ns na nm u v A B C D' a m :=
  ⟨g.hu.keep hu s.sD.1 s.sD.2.1, g.hv.keep hu s.sD.2.2.1 s.sD.2.2.2.1, g.hA.keep hu s.sD.2.2.2.2.1 s.sD.2.2.2.2.2.1, g.hB.keep hu s.sD.2.2.2.2.2.2.1 s.sD.2.2.2.2.2.2.2.1, g.hC.keep hu s.sD.2.2.2.2.2.2.2.2.1 s.sD.2.2.2.2.2.2.2.2.2.1, hx, g.ha.keep hu s.sD.2.2.2.2.2.2.2.2.2.2.1 s.sD.2.2.2.2.2.2.2.2.2.2.2.1, g.hm.keep hu s.sD.2.2.2.2.2.2.2.2.2.2.2.2.1 s.sD.2.2.2.2.2.2.2.2.2.2.2.2.2⟩
theorem G8S.pv_bu {pu bu pv bv pA bA pB bB pC bC pD bD pa ba pm bm : Nat} (s : G8S pu bu pv bv pA bA pB bB pC bC pD bD pa ba pm bm) : pv ≠ bu := s.su.1
theorem G8S.bv_bu {pu bu pv bv pA bA pB bB pC bC pD bD pa ba pm bm : Nat} (s : G8S pu bu pv bv pA bA pB bB pC bC pD bD pa ba pm bm) : bv ≠ bu := s.su.2.1
theorem G8S.pA_bu {pu bu pv bv pA bA pB bB pC bC pD bD pa ba pm bm : Nat} (s : G8S pu bu pv bv pA bA pB bB pC bC pD bD pa ba pm bm) : pA ≠ bu := s.su.2.2.1
theorem G8S.bA_bu {pu bu pv bv pA bA pB bB pC bC pD bD pa ba pm bm : Nat} (s : G8S pu bu pv bv pA bA pB bB pC bC pD bD pa ba pm bm) : bA ≠ bu := s.su.2.2.2.1
theorem G8S.pB_bu {pu bu pv bv pA bA pB bB pC bC pD bD pa ba pm bm : Nat} (s : G8S pu bu pv bv pA bA pB bB pC bC pD bD pa ba pm bm) : pB ≠ bu := s.su.2.2.2.2.1
theorem G8S.bB_bu {pu bu pv bv pA bA pB bB pC bC pD bD pa ba pm bm : Nat} (s : G8S pu bu pv bv pA bA pB bB pC bC pD bD pa ba pm bm) : bB ≠ bu := s.su.2.2.2.2.2.1
theorem G8S.pC_bu {pu bu pv bv pA bA pB bB pC bC pD bD pa ba pm bm : Nat} (s : G8S pu bu pv bv pA bA pB bB pC bC pD bD pa ba pm bm) : pC ≠ bu := s.su.2.2.2.2.2.2.1
theorem G8S.bC_bu {pu bu pv bv pA bA pB bB pC bC pD bD pa ba pm bm : Nat} (s : G8S pu bu pv bv pA bA pB bB pC bC pD bD pa ba pm bm) : bC ≠ bu := s.su.2.2.2.2.2.2.2.1
theorem G8S.pD_bu {pu bu pv bv pA bA pB bB pC bC pD bD pa ba pm bm : Nat} (s : G8S pu bu pv bv pA bA pB bB pC bC pD bD pa ba pm bm) : pD ≠ bu := s.su.2.2.2.2.2.2.2.2.1
theorem G8S.bD_bu {pu bu pv bv pA bA pB bB pC bC pD bD pa ba pm bm : Nat} (s : G8S pu bu pv bv pA bA pB bB pC bC pD bD pa ba pm bm) : bD ≠ bu := s.su.2.2.2.2.2.2.2.2.2.1
theorem G8S.pa_bu {pu bu pv bv pA bA pB bB pC bC pD bD pa ba pm bm : Nat} (s : G8S pu bu pv bv pA bA pB bB pC bC pD bD pa ba pm bm) : pa ≠ bu := s.su.2.2.2.2.2.2.2.2.2.2.1
theorem G8S.ba_bu {pu bu pv bv pA bA pB bB pC bC pD bD pa ba pm bm : Nat} (s : G8S pu bu pv bv pA bA pB bB pC bC pD bD pa ba pm bm) : ba ≠ bu := s.su.2.2.2.2.2.2.2.2.2.2.2.1
theorem G8S.pm_bu {pu bu pv bv pA bA pB bB pC bC pD bD pa ba pm bm : Nat} (s : G8S pu bu pv bv pA bA pB bB pC bC pD bD pa ba pm bm) : pm ≠ bu := s.su.2.2.2.2.2.2.2.2.2.2.2.2.1
theorem G8S.bm_bu {pu bu pv bv pA bA pB bB pC bC pD bD pa ba pm bm : Nat} (s : G8S pu bu pv bv pA bA pB bB pC bC pD bD pa ba pm bm) : bm ≠ bu := s.su.2.2.2.2.2.2.2.2.2.2.2.2.2
theorem G8S.pu_bv {pu bu pv bv pA bA pB bB pC bC pD bD pa ba pm bm : Nat} (s : G8S pu bu pv bv pA bA pB bB pC bC pD bD pa ba pm bm) : pu ≠ bv := s.sv.1
theorem G8S.bu_bv {pu bu pv bv pA bA pB bB pC bC pD bD pa ba pm bm : Nat} (s : G8S pu bu pv bv pA bA pB bB pC bC pD bD pa ba pm bm) : bu ≠ bv := s.sv.2.1
theorem G8S.pA_bv {pu bu pv bv pA bA pB bB pC bC pD bD pa ba pm bm : Nat} (s : G8S pu bu pv bv pA bA pB bB pC bC pD bD pa ba pm bm) : pA ≠ bv := s.sv.2.2.1
theorem G8S.bA_bv {pu bu pv bv pA bA pB bB pC bC pD bD pa ba pm bm : Nat} (s : G8S pu bu pv bv pA bA pB bB pC bC pD bD pa ba pm bm) : bA ≠ bv := s.sv.2.2.2.1
theorem G8S.pB_bv {pu bu pv bv pA bA pB bB pC bC pD bD pa ba pm bm : Nat} (s : G8S pu bu pv bv pA bA pB bB pC bC pD bD pa ba pm bm) : pB ≠ bv := s.sv.2.2.2.2.1
theorem G8S.bB_bv {pu bu pv bv pA bA pB bB pC bC pD bD pa ba pm bm : Nat} (s : G8S pu bu pv bv pA bA pB bB pC bC pD bD pa ba pm bm) : bB ≠ bv := s.sv.2.2.2.2.2.1
theorem G8S.pC_bv {pu bu pv bv pA bA pB bB pC bC pD bD pa ba pm bm : Nat} (s : G8S pu bu pv bv pA bA pB bB pC bC pD bD pa ba pm bm) : pC ≠ bv := s.sv.2.2.2.2.2.2.1
theorem G8S.bC_bv {pu bu pv bv pA bA pB bB pC bC pD bD pa ba pm bm : Nat} (s : G8S pu bu pv bv pA bA pB bB pC bC pD bD pa ba pm bm) : bC ≠ bv := s.sv.2.2.2.2.2.2.2.1
theorem G8S.pD_bv {pu bu pv bv pA bA pB bB pC bC pD bD pa ba pm bm : Nat} (s : G8S pu bu pv bv pA bA pB bB pC bC pD bD pa ba pm bm) : pD ≠ bv := s.sv.2.2.2.2.2.2.2.2.1
theorem G8S.bD_bv {pu bu pv bv pA bA pB bB pC bC pD bD pa ba pm bm : Nat} (s : G8S pu bu pv bv pA bA pB bB pC bC pD bD pa ba pm bm) : bD ≠ bv := s.sv.2.2.2.2.2.2.2.2.2.1
theorem G8S.pa_bv {pu bu pv bv pA bA pB bB pC bC pD bD pa ba pm bm : Nat} (s : G8S pu bu pv bv pA bA pB bB pC bC pD bD pa ba pm bm) : pa ≠ bv := s.sv.2.2.2.2.2.2.2.2.2.2.1
theorem G8S.ba_bv {pu bu pv bv pA bA pB bB pC bC pD bD pa ba pm bm : Nat} (s : G8S pu bu pv bv pA bA pB bB pC bC pD bD pa ba pm bm) : ba ≠ bv := s.sv.2.2.2.2.2.2.2.2.2.2.2.1
theorem G8S.pm_bv {pu bu pv bv pA bA pB bB pC bC pD bD pa ba pm bm : Nat} (s : G8S pu bu pv bv pA bA pB bB pC bC pD bD pa ba pm bm) : pm ≠ bv := s.sv.2.2.2.2.2.2.2.2.2.2.2.2.1
theorem G8S.bm_bv {pu bu pv bv pA bA pB bB pC bC pD bD pa ba pm bm : Nat} (s : G8S pu bu pv bv pA bA pB bB pC bC pD bD pa ba pm bm) : bm ≠ bv := s.sv.2.2.2.2.2.2.2.2.2.2.2.2.2
theorem G8S.pu_bA {pu bu pv bv pA bA pB bB pC bC pD bD pa ba pm bm : Nat} (s : G8S pu bu pv bv pA bA pB bB pC bC pD bD pa ba pm bm) : pu ≠ bA := s.sA.1
theorem G8S.bu_bA {pu bu pv bv pA bA pB bB pC bC pD bD pa ba pm bm : Nat} (s : G8S pu bu pv bv pA bA pB bB pC bC pD bD pa ba pm bm) : bu ≠ bA := s.sA.2.1
theorem G8S.pv_bA {pu bu pv bv pA bA pB bB pC bC pD bD pa ba pm bm : Nat} (s : G8S pu bu pv bv pA bA pB bB pC bC pD bD pa ba pm bm) : pv ≠ bA := s.sA.2.2.1
theorem G8S.bv_bA {pu bu pv bv pA bA pB bB pC bC pD bD pa ba pm bm : Nat} (s : G8S pu bu pv bv pA bA pB bB pC bC pD bD pa ba pm bm) : bv ≠ bA := s.sA.2.2.2.1
theorem G8S.pB_bA {pu bu pv bv pA bA pB bB pC bC pD bD pa ba pm bm : Nat} (s : G8S pu bu pv bv pA bA pB bB pC bC pD bD pa ba pm bm) : pB ≠ bA := s.sA.2.2.2.2.1
theorem G8S.bB_bA {pu bu pv bv pA bA pB bB pC bC pD bD pa ba pm bm : Nat} (s : G8S pu bu pv bv pA bA pB bB pC bC pD bD pa ba pm bm) : bB ≠ bA := s.sA.2.2.2.2.2.1
theorem G8S.pC_bA {pu bu pv bv pA bA pB bB pC bC pD bD pa ba pm bm : Nat} (s : G8S pu bu pv bv pA bA pB bB pC bC pD bD pa ba pm bm) : pC ≠ bA := s.sA.2.2.2.2.2.2.1
theorem G8S.bC_bA {pu bu pv bv pA bA pB bB pC bC pD bD pa ba pm bm : Nat} (s : G8S pu bu pv bv pA bA pB bB pC bC pD bD pa ba pm bm) : bC ≠ bA := s.sA.2.2.2.2.2.2.2.1
theorem G8S.pD_bA {pu bu pv bv pA bA pB bB pC bC pD bD pa ba pm bm : Nat} (s : G8S pu bu pv bv pA bA pB bB pC bC pD bD pa ba pm bm) : pD ≠ bA := s.sA.2.2.2.2.2.2.2.2.1
theorem G8S.bD_bA {pu bu pv bv pA bA pB bB pC bC pD bD pa ba pm bm : Nat} (s : G8S pu bu pv bv pA bA pB bB pC bC pD bD pa ba pm bm) : bD ≠ bA := s.sA.2.2.2.2.2.2.2.2.2.1
theorem G8S.pa_bA {pu bu pv bv pA bA pB bB pC bC pD bD pa ba pm bm : Nat} (s : G8S pu bu pv bv pA bA pB bB pC bC pD bD pa ba pm bm) : pa ≠ bA := s.sA.2.2.2.2.2.2.2.2.2.2.1
theorem G8S.ba_bA {pu bu pv bv pA bA pB bB pC bC pD bD pa ba pm bm : Nat} (s : G8S pu bu pv bv pA bA pB bB pC bC pD bD pa ba pm bm) : ba ≠ bA := s.sA.2.2.2.2.2.2.2.2.2.2.2.1
theorem G8S.pm_bA {pu bu pv bv pA bA pB bB pC bC pD bD pa ba pm bm : Nat} (s : G8S pu bu pv bv pA bA pB bB pC bC pD bD pa ba pm bm) : pm ≠ bA := s.sA.2.2.2.2.2.2.2.2.2.2.2.2.1
theorem G8S.bm_bA {pu bu pv bv pA bA pB bB pC bC pD bD pa ba pm bm : Nat} (s : G8S pu bu pv bv pA bA pB bB pC bC pD bD pa ba pm bm) : bm ≠ bA := s.sA.2.2.2.2.2.2.2.2.2.2.2.2.2
theorem G8S.pu_bB {pu bu pv bv pA bA pB bB pC bC pD bD pa ba pm bm : Nat} (s : G8S pu bu pv bv pA bA pB bB pC bC pD bD pa ba pm bm) : pu ≠ bB := s.sB.1
theorem G8S.bu_bB {pu bu pv bv pA bA pB bB pC bC pD bD pa ba pm bm : Nat} (s : G8S pu bu pv bv pA bA pB bB pC bC pD bD pa ba pm bm) : bu ≠ bB := s.sB.2.1
theorem G8S.pv_bB {pu bu pv bv pA bA pB bB pC bC pD bD pa ba pm bm : Nat} (s : G8S pu bu pv bv pA bA pB bB pC bC pD bD pa ba pm bm) : pv ≠ bB := s.sB.2.2.1
theorem G8S.bv_bB {pu bu pv bv pA bA pB bB pC bC pD bD pa ba pm bm : Nat} (s : G8S pu bu pv bv pA bA pB bB pC bC pD bD pa ba pm bm) : bv ≠ bB := s.sB.2.2.2.1
theorem G8S.pA_bB {pu bu pv bv pA bA pB bB pC bC pD bD pa ba pm bm : Nat} (s : G8S pu bu pv bv pA bA pB bB pC bC pD bD pa ba pm bm) : pA ≠ bB := s.sB.2.2.2.2.1
theorem G8S.bA_bB {pu bu pv bv pA bA pB bB pC bC pD bD pa ba pm bm : Nat} (s : G8S pu bu pv bv pA bA pB bB pC bC pD bD pa ba pm bm) : bA ≠ bB := s.sB.2.2.2.2.2.1
theorem G8S.pC_bB {pu bu pv bv pA bA pB bB pC bC pD bD pa ba pm bm : Nat} (s : G8S pu bu pv bv pA bA pB bB pC bC pD bD pa ba pm bm) : pC ≠ bB := s.sB.2.2.2.2.2.2.1
theorem G8S.bC_bB {pu bu pv bv pA bA pB bB pC bC pD bD pa ba pm bm : Nat} (s : G8S pu bu pv bv pA bA pB bB pC bC pD bD pa ba pm bm) : bC ≠ bB := s.sB.2.2.2.2.2.2.2.1
theorem G8S.pD_bB {pu bu pv bv pA bA pB bB pC bC pD bD pa ba pm bm : Nat} (s : G8S pu bu pv bv pA bA pB bB pC bC pD bD pa ba pm bm) : pD ≠ bB := s.sB.2.2.2.2.2.2.2.2.1
theorem G8S.bD_bB {pu bu pv bv pA bA pB bB pC bC pD bD pa ba pm bm : Nat} (s : G8S pu bu pv bv pA bA pB bB pC bC pD bD pa ba pm bm) : bD ≠ bB := s.sB.2.2.2.2.2.2.2.2.2.1
theorem G8S.pa_bB {pu bu pv bv pA bA pB bB pC bC pD bD pa ba pm bm : Nat} (s : G8S pu bu pv bv pA bA pB bB pC bC pD bD pa ba pm bm) : pa ≠ bB := s.sB.2.2.2.2.2.2.2.2.2.2.1
theorem G8S.ba_bB {pu bu pv bv pA bA pB bB pC bC pD bD pa ba pm bm : Nat} (s : G8S pu bu pv bv pA bA pB bB pC bC pD bD pa ba pm bm) : ba ≠ bB := s.sB.2.2.2.2.2.2.2.2.2.2.2.1
theorem G8S.pm_bB {pu bu pv bv pA bA pB bB pC bC pD bD pa ba pm bm : Nat} (s : G8S pu bu pv bv pA bA pB bB pC bC pD bD pa ba pm bm) : pm ≠ bB := s.sB.2.2.2.2.2.2.2.2.2.2.2.2.1
theorem G8S.bm_bB {pu bu pv bv pA bA pB bB pC bC pD bD pa ba pm bm : Nat} (s : G8S pu bu pv bv pA bA pB bB pC bC pD bD pa ba pm bm) : bm ≠ bB := s.sB.2.2.2.2.2.2.2.2.2.2.2.2.2
theorem G8S.pu_bC {pu bu pv bv pA bA pB bB pC bC pD bD pa ba pm bm : Nat} (s : G8S pu bu pv bv pA bA pB bB pC bC pD bD pa ba pm bm) : pu ≠ bC := s.sC.1
theorem G8S.bu_bC {pu bu pv bv pA bA pB bB pC bC pD bD pa ba pm bm : Nat} (s : G8S pu bu pv bv pA bA pB bB pC bC pD bD pa ba pm bm) : bu ≠ bC := s.sC.2.1
theorem G8S.pv_bC {pu bu pv bv pA bA pB bB pC bC pD bD pa ba pm bm : Nat} (s : G8S pu bu pv bv pA bA pB bB pC bC pD bD pa ba pm bm) : pv ≠ bC := s.sC.2.2.1
theorem G8S.bv_bC {pu bu pv bv pA bA pB bB pC bC pD bD pa ba pm bm : Nat} (s : G8S pu bu pv bv pA bA pB bB pC bC pD bD pa ba pm bm) : bv ≠ bC := s.sC.2.2.2.1
theorem G8S.pA_bC {pu bu pv bv pA bA pB bB pC bC pD bD pa ba pm bm : Nat} (s : G8S pu bu pv bv pA bA pB bB pC bC pD bD pa ba pm bm) : pA ≠ bC := s.sC.2.2.2.2.1
theorem G8S.bA_bC {pu bu pv bv pA bA pB bB pC bC pD bD pa ba pm bm : Nat} (s : G8S pu bu pv bv pA bA pB bB pC bC pD bD pa ba pm bm) : bA ≠ bC := s.sC.2.2.2.2.2.1
theorem G8S.pB_bC {pu bu pv bv pA bA pB bB pC bC pD bD pa ba pm bm : Nat} (s : G8S pu bu pv bv pA bA pB bB pC bC pD bD pa ba pm bm) : pB ≠ bC := s.sC.2.2.2.2.2.2.1
theorem G8S.bB_bC {pu bu pv bv pA bA pB bB pC bC pD bD pa ba pm bm : Nat} (s : G8S pu bu pv bv pA bA pB bB pC bC pD bD pa ba pm bm) : bB ≠ bC := s.sC.2.2.2.2.2.2.2.1
theorem G8S.pD_bC {pu bu pv bv pA bA pB bB pC bC pD bD pa ba pm bm : Nat} (s : G8S pu bu pv bv pA bA pB bB pC bC pD bD pa ba pm bm) : pD ≠ bC := s.sC.2.2.2.2.2.2.2.2.1
theorem G8S.bD_bC {pu bu pv bv pA bA pB bB pC bC pD bD pa ba pm bm : Nat} (s : G8S pu bu pv bv pA bA pB bB pC bC pD bD pa ba pm bm) : bD ≠ bC := s.sC.2.2.2.2.2.2.2.2.2.1
theorem G8S.pa_bC {pu bu pv bv pA bA pB bB pC bC pD bD pa ba pm bm : Nat} (s : G8S pu bu pv bv pA bA pB bB pC bC pD bD pa ba pm bm) : pa ≠ bC := s.sC.2.2.2.2.2.2.2.2.2.2.1
theorem G8S.ba_bC {pu bu pv bv pA bA pB bB pC bC pD bD pa ba pm bm : Nat} (s : G8S pu bu pv bv pA bA pB bB pC bC pD bD pa ba pm bm) : ba ≠ bC := s.sC.2.2.2.2.2.2.2.2.2.2.2.1
theorem G8S.pm_bC {pu bu pv bv pA bA pB bB pC bC pD bD pa ba pm bm : Nat} (s : G8S pu bu pv bv pA bA pB bB pC bC pD bD pa ba pm bm) : pm ≠ bC := s.sC.2.2.2.2.2.2.2.2.2.2.2.2.1
theorem G8S.bm_bC {pu bu pv bv pA bA pB bB pC bC pD bD pa ba pm bm : Nat} (s : G8S pu bu pv bv pA bA pB bB pC bC pD bD pa ba pm bm) : bm ≠ bC := s.sC.2.2.2.2.2.2.2.2.2.2.2.2.2
theorem G8S.pu_bD {pu bu pv bv pA bA pB bB pC bC pD bD pa ba pm bm : Nat} (s : G8S pu bu pv bv pA bA pB bB pC bC pD bD pa ba pm bm) : pu ≠ bD := s.sD.1
theorem G8S.bu_bD {pu bu pv bv pA bA pB bB pC bC pD bD pa ba pm bm : Nat} (s : G8S pu bu pv bv pA bA pB bB pC bC pD bD pa ba pm bm) : bu ≠ bD := s.sD.2.1
theorem G8S.pv_bD {pu bu pv bv pA bA pB bB pC bC pD bD pa ba pm bm : Nat} (s : G8S pu bu pv bv pA bA pB bB pC bC pD bD pa ba pm bm) : pv ≠ bD := s.sD.2.2.1
theorem G8S.bv_bD {pu bu pv bv pA bA pB bB pC bC pD bD pa ba pm bm : Nat} (s : G8S pu bu pv bv pA bA pB bB pC bC pD bD pa ba pm bm) : bv ≠ bD := s.sD.2.2.2.1
theorem G8S.pA_bD {pu bu pv bv pA bA pB bB pC bC pD bD pa ba pm bm : Nat} (s : G8S pu bu pv bv pA bA pB bB pC bC pD bD pa ba pm bm) : pA ≠ bD := s.sD.2.2.2.2.1
theorem G8S.bA_bD {pu bu pv bv pA bA pB bB pC bC pD bD pa ba pm bm : Nat} (s : G8S pu bu pv bv pA bA pB bB pC bC pD bD pa ba pm bm) : bA ≠ bD := s.sD.2.2.2.2.2.1
theorem G8S.pB_bD {pu bu pv bv pA bA pB bB pC bC pD bD pa ba pm bm : Nat} (s : G8S pu bu pv bv pA bA pB bB pC bC pD bD pa ba pm bm) : pB ≠ bD := s.sD.2.2.2.2.2.2.1
theorem G8S.bB_bD {pu bu pv bv pA bA pB bB pC bC pD bD pa ba pm bm : Nat} (s : G8S pu bu pv bv pA bA pB bB pC bC pD bD pa ba pm bm) : bB ≠ bD := s.sD.2.2.2.2.2.2.2.1
theorem G8S.pC_bD {pu bu pv bv pA bA pB bB pC bC pD bD pa ba pm bm : Nat} (s : G8S pu bu pv bv pA bA pB bB pC bC pD bD pa ba pm bm) : pC ≠ bD := s.sD.2.2.2.2.2.2.2.2.1
theorem G8S.bC_bD {pu bu pv bv pA bA pB bB pC bC pD bD pa ba pm bm : Nat} (s : G8S pu bu pv bv pA bA pB bB pC bC pD bD pa ba pm bm) : bC ≠ bD := s.sD.2.2.2.2.2.2.2.2.2.1
theorem G8S.pa_bD {pu bu pv bv pA bA pB bB pC bC pD bD pa ba pm bm : Nat} (s : G8S pu bu pv bv pA bA pB bB pC bC pD bD pa ba pm bm) : pa ≠ bD := s.sD.2.2.2.2.2.2.2.2.2.2.1
theorem G8S.ba_bD {pu bu pv bv pA bA pB bB pC bC pD bD pa ba pm bm : Nat} (s : G8S pu bu pv bv pA bA pB bB pC bC pD bD pa ba pm bm) : ba ≠ bD := s.sD.2.2.2.2.2.2.2.2.2.2.2.1
theorem G8S.pm_bD {pu bu pv bv pA bA pB bB pC bC pD bD pa ba pm bm : Nat} (s : G8S pu bu pv bv pA bA pB bB pC bC pD bD pa ba pm bm) : pm ≠ bD := s.sD.2.2.2.2.2.2.2.2.2.2.2.2.1
theorem G8S.bm_bD {pu bu pv bv pA bA pB bB pC bC pD bD pa ba pm bm : Nat} (s : G8S pu bu pv bv pA bA pB bB pC bC pD bD pa ba pm bm) : bm ≠ bD := s.sD.2.2.2.2.2.2.2.2.2.2.2.2.2

/-- A new number of n limbs. -/
def FreshNum (w : World) (n X : Nat) (t : Value) (wx : World) : Prop :=
  ∃ p b c, t = .pointer (some ⟨p, 0, none⟩) ∧ NatAt wx p b c n X ∧ w.heap.size ≤ p ∧ w.heap.size ≤ b ∧ p < wx.heap.size ∧ b < wx.heap.size ∧ Upd0 w wx
/-- NewNat().reset(n): a new number 0 of n limbs. -/
theorem fresh_reset {w w1 w2 : World} {n : Nat} (hz : w1.heap.size = w.heap.size + 2) (hu1 : Upd0 w w1) {b' c' : Nat} (hx : NatAt w2 (w.heap.size + 1) b' c' n 0) (hb : NewB w1 w.heap.size b') (hu2 : Upd (fun k => k = w.heap.size + 1 ∨ k = w.heap.size) w1 w2) :
    FreshNum w n 0 (.pointer (some ⟨w.heap.size + 1, 0, none⟩)) w2 :=
  ⟨_, b', c', rfl, hx, by omega, by rcases hb with h | h <;> omega, hx.hp, hx.hb, hu1.then hu2 (fun i hi h => by omega)⟩
/-- The first limb of a number 0 is set. -/
theorem NatAt.setLow {w : World} {p b c n : Nat} (hx : NatAt w p b c n 0) (hn : 0 < n) (d : Nat) (hd : d < 18446744073709551616) : NatAt (w.setCell ⟨b, 0, none⟩ (.int .u64 d)) p b c n d := by
  have hw := (Wrote.start hx.own).set hn d rfl
  refine hx.wrote (hw.congr fun i hi => ?_) ?_
  · by_cases e : i = 0
    · subst e; rw [if_pos rfl, dg_zero, Nat.mod_eq_of_lt (by unfold W64; omega)]
    · rw [if_neg e, dg_of_lt (Nat.pow_pos W64_pos), dg_of_lt' W64_pos (n := 1) (by unfold W64; omega) (by omega)]
  · obtain ⟨k, rfl⟩ : ∃ k, n = k + 1 := ⟨n - 1, by omega⟩
    rw [Nat.pow_succ]
    have := Nat.le_mul_of_pos_left W64 (Nat.pow_pos (n := k) W64_pos)
    unfold W64 at this ⊢
    omega

/-- What holds at the head of the loop. -/
def GHead (w : World) (pu bu cu pv bv cv pA bA cA pB bB cB pC bC cC pD bD cD pa ba ca pm bm cm ns na nm a m k : Nat) (wr : World) : Prop :=
  ∃ u v A B C D, G8 wr pu bu cu pv bv cv pA bA cA pB bB cB pC bC cC pD bD cD pa ba ca pm bm cm ns na nm u v A B C D a m ∧ GI a m u v A B C D ∧ 0 < v ∧ u + v ≤ k ∧ Upd0 w wr
/-- What holds in the middle of a round: one of u and v is odd. -/
def GMid (w : World) (pu bu cu pv bv cv pA bA cA pB bB cB pC bC cC pD bD cD pa ba ca pm bm cm ns na nm a m k : Nat) (wr : World) : Prop :=
  ∃ u v A B C D, G8 wr pu bu cu pv bv cv pA bA cA pB bB cB pC bC cC pD bD cD pa ba ca pm bm cm ns na nm u v A B C D a m ∧ GI a m u v A B C D ∧ u % 2 ≠ v % 2 ∧ (u + v < k ∨ 0 < v ∧ u + v ≤ k) ∧ Upd0 w wr
/-- What extendedGCD returns. -/
def RetGcd (w : World) (n nm a m : Nat) (e : Ending) (w' : World) : Prop :=
  ∃ pu bu cu pA bA cA A, e = .returned (.tuple #[.pointer (some ⟨pu, 0, none⟩), .pointer (some ⟨pA, 0, none⟩), .nilIface]) ∧ NatAt w' pu bu cu n (Nat.gcd a m) ∧ NatAt w' pA bA cA nm A ∧ (a < m → A < m ∧ A * a % m = Nat.gcd a m % m)
    ∧ w.heap.size ≤ pu ∧ w.heap.size ≤ bu ∧ w.heap.size ≤ pA ∧ w.heap.size ≤ bA ∧ Upd0 w w'

theorem par_cases (x : Nat) : x % 2 = 0 ∨ x % 2 = 1 := Nat.mod_two_eq_zero_or_one x

theorem newNat_drew (w : World) :
    Calls Tryd.prog 21 #[] w.drew fun e w' => e = .returned (.pointer (some ⟨w.heap.size + 1, 0, none⟩)) ∧ NatAt w' (w.heap.size + 1) w.heap.size 32 0 0 ∧ Upd0 w w' ∧ Hid (w'.heap.size = w.heap.size + 2) :=
  (newNat_any w.drew).mono fun _ _ ⟨h1, h2, h3, h4⟩ => ⟨h1, h2, h3.of_drew, h4⟩
theorem MNat.boxed {w : World} {q b c n M : Nat} (h : NatAt w q b c n M) (t : Nat) : MNat (w.alloc (.cells #[.pointer (some ⟨q, 0, none⟩), .bool false, .int .u64 0, .pointer none] t)) w.heap.size q b c n M :=
  ⟨World.cell?_alloc_new _ _ _ _, h.keep0 ((Upd.refl _ _).alloc _)⟩

end Go.Proofs.YtgdjhkmofedhpaaDoor
