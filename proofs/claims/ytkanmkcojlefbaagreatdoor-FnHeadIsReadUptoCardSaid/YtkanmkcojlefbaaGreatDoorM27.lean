/-
  Part of the proof; holds the texts AllowB, AllowCF, AllowCT, AllowA.
-/
import Derived.Test.YtkanmkcojlefbaaGreatDoorM18
set_option maxHeartbeats 8000000
set_option maxRecDepth 100000
set_option linter.unusedSimpArgs false
set_option linter.unusedVariables false
namespace Go.Proofs.YtkanmkcojlefbaaGreatDoor
open Go.RowKit
variable {c0 c5 c6 c7 c9 iW iX iY iZ jA jB jC jD jE jF c20 c21 jG jH jI jJ jK iU iV jL jM jN jO jP jQ jR jS c37 jT jU jV jW jX jY jZ kA c46 kB kC kD kE c51 kF c53 kG kH kI kJ kL kM kO kP kQ kR kS kT kU kV kW kX kY kZ lB lC lD c75 lE lF lG lH c80 lI lJ lL lM c85 lO lP lQ lR lS lT lU lV lW lX lY lZ mA mB aA aB aC aD aF aG aH aI aJ aK aL aM aN aO aP aQ aR aS aT aU aV aW aX aY aZ bB bC c127 bD bE bF bG bH bI bJ bK bL bM bN bO bP bQ bR c143 bS c145 bT bU bV bW bX bY bZ cA cB cC cD cE cF cG cH cI cJ cL cM cO cP c167 c168 cQ cS c171 cT c173 cU c175 cV cW cX cY cZ dA dB dC dD dE dF dG dH dI dJ dL dM dO dP dQ dR dS dT dU dV dW dX dY dZ eA eC eD eH eJ c210 eK c212 c213 eO eR eS eV eW eX eY eZ fA fB fC fD fE fH fI fJ fK fL c232 c233 fN fO fP fQ fR fS fT fU fV fW fX fY fZ gA gB gC gD gE gF gG gH gI gJ gK gL gM gN gO gP gQ gR gT gU gW gX gY gZ hJ hZ iA iB iC iD iE iF iG iH iI iJ iK iL iM iN iO iP iQ iR iS iT:Value}
theorem A3w (G0:Nat) (E:Nat->Addr) (b0:Nat) (H:Hd) (R:KV) (u2 p g2 q:Bool) (M:KV) (n2:Nat) (w w2:World) (Aq:w.heap.size=b0)
  (AU:∀k v,M k=some v->F0 k v=true/\k.length<=2305843009213693952/\v.length<=2305843009213693952)
  (AQ:H.fmt=0\/H.fmt=2\/H.fmt=4\/H.fmt=8) (Az:fm (S8 u2 p g2 q H.fmt).1 (S8 u2 p g2 q H.fmt).2.1 (S8 u2 p g2 q H.fmt).2.2≠0)
  (AL:AF G0 E b0 H R u2 p g2 q M n2 w2) (Bh:n2<=4294967400) (AM:Below b0 w w2):
  Code.wp Tryz.prog B7T (bodyPost Tryz.prog Tryz.f65 (A1l G0 E (S8 u2 p g2 q H.fmt) M w)) ⟨(c0::.pointer (some ⟨b0,0,none⟩)::.pointer (some ⟨b0+1,0,none⟩)::.pointer (some ⟨b0+2,0,none⟩)::.nilIface::c5::c6::c7::.pointer (some ⟨b0+7,0,none⟩)::c9::iW::iX::iY::iZ::jA::jB::jC::jD::jE::jF::c20::c21::jG::jH::jI::jJ::jK::iU::iV::jL::jM::jN::jO::jP::jQ::jR::jS::c37::jT::jU::jV::jW::jX::jY::jZ::kA::c46::kB::kC::kD::kE::c51::kF::c53::kG::kH::kI::kJ::kL::kM::kO::kP::kQ::kR::kS::kT::kU::kV::kW::kX::kY::kZ::lB::lC::lD::c75::lE::lF::lG::lH::c80::lI::lJ::lL::lM::c85::lO::lP::lQ::lR::lS::lT::lU::lV::lW::lX::lY::lZ::mA::mB::aA::aB::aC::aD::aF::aG::aH::aI::aJ::aK::aL::aM::aN::aO::aP::aQ::aR::aS::aT::aU::aV::aW::aX::aY::aZ::bB::bC::c127::bD::bE::bF::bG::bH::bI::bJ::bK::bL::bM::bN::bO::bP::bQ::bR::c143::bS::c145::bT::bU::bV::bW::bX::bY::bZ::cA::cB::cC::cD::cE::cF::cG::cH::cI::cJ::cL::cM::cO::cP::c167::c168::cQ::cS::c171::cT::c173::cU::c175::cV::cW::cX::cY::cZ::dA::dB::dC::dD::dE::dF::dG::dH::dI::dJ::dL::dM::dO::dP::dQ::dR::dS::dT::dU::dV::dW::dX::dY::dZ::eA::eC::eD::eH::eJ::c210::eK::c212::c213::eO::eR::eS::eV::eW::eX::eY::eZ::fA::fB::fC::fD::fE::fH::fI::fJ::fK::fL::c232::c233::fN::fO::fP::fQ::fR::fS::fT::fU::fV::fW::fX::fY::fZ::gA::gB::gC::gD::gE::gF::gG::gH::gI::gJ::gK::gL::gM::gN::gO::gP::gQ::gR::gT::gU::gW::gX::gY::gZ::hJ::hZ::iA::iB::iC::iD::iE::iF::iG::iH::iI::iJ::iK::iL::iM::iN::iO::iP::iQ::iR::iS::iT::[]).toArray,[]⟩ w2:=by
 conv=>arg 2;whnf
 have Aj:=A0 Aq;have AY:=A0 AU;have BJ:=A0 AQ;have BO:=A0 Az;clear Aq AU AQ Az;have c3:w2.cell? ⟨b0+2,0,none⟩=some (.map (some (b0+3))):=by rw[Lib.cell_of_heap AL.fM];rfl
 have Ay:=AL.mp;have BD:=A0 AL;have AR:=AL.lt;clear AL;go_wp2_with (at_range;refine X3 _ rfl _ rfl (b0+3) n2 M rfl Ay ?_;intro w0 AZ AS BU Ad BX)
 go_frame
 have Ak:Hid (A9w G0 E b0 H R u2 p g2 q M n2 w2.heap.size w2 w0):=A0 ⟨_,AZ,AS,BD.out.other (j:=w2.heap.size) (A0w (Ad.but (some w2.heap.size)) _) (by omega),Fr.below_of (A0w (Ad.but (some w2.heap.size)) w2.heap.size) (by omega) (by simp;omega)⟩;clear AS BU Ad BX c3 Ay;have AX:=A0 AM;clear AM;obtain⟨r1,Ag⟩:∃r1,r1=w2.heap.size:=⟨_,rfl⟩;rw[<-Ag] at Ak AR⊢;have Be:=A0 Ag;clear Ag;go_loopw [4,25] (λs4 _ wr=>s4= .nilIface/\Hid (A9w G0 E b0 H R u2 p g2 q M n2 r1 w2 wr)) (λ_ _ wr=>wr.rangeLeft (b0+3) r1)
 case atStart=>exact⟨rfl,Ak⟩
 case round=>
  obtain⟨rfl,hrel⟩:=hrel;obtain⟨Ah,BP,AW,An,Au⟩:=hrel.out;have AE:=A0 An;have Ai:=A0 Au;have Al:=A0 AW;clear hrel An Au;go_wp2_with (at_next;refine Z1 _ rfl _ rfl (b0+3) r1 n2 M Ah BP rfl AW ?_ ?_)
  ·intro BT BZ
   clear AW BT BZ Al;have hF:=AE.out.fF;have hQ:=AE.out.pr;have cf:=AE.out.hd 19 (.int .i64 H.fmt) rfl;have h8:=A8 hQ;go_upto_if 250 with fail
   have AV:=AE.out.below ((Below.refl _ wr).alloc (Nat.le_refl _) (.cells #[.int .i64 H.fmt] 128));have AO:=heap_alloc_new wr (.cells #[.int .i64 H.fmt] 128);have Ao:Below b0 wr (wr.alloc (.cells #[.int .i64 H.fmt] 128)):=(Below.refl b0 wr).alloc (by omega) _;generalize wr.alloc (.cells #[.int .i64 H.fmt] 128)=W at*;generalize AP:wr.heap.size=fb at*;generalize Av:S8 u2 p g2 q H.fmt=ff at*;generalize hx:H.fmt=x at*;have AG:=A0 AV;have AH:=A0 Ao;have AI:=A0 Av;have HX:=A0 hx;have BI:=A0 AP;have AC:=AV.fF;have BS:W.cell? ⟨b0+7,0,none⟩=some (.bool q):=by rw[Lib.cell_of_heap AV.pr];rfl
   have iU:W.cell? ⟨fb,0,none⟩=some (.int .i64 x):=by rw[Lib.cell_of_heap AO];rfl
   have Ae:fb≠b0+1:=by omega
   have Af:fb≠b0+7:=by omega
   have BV:fb<W.heap.size:=A8 AO;clear AV Ao Av hx hF hQ cf AP;go_cut [] (λwx=>AF G0 E b0 H R ff.1 ff.2.1 ff.2.2 q M n2 wx/\Below b0 wr wx)
   case first=>
    rcases BJ.out with rfl|rfl|rfl|rfl
    ·clear AC
     go_wp2_with fail
     go_meet
     refine⟨?_,AH.out⟩;have e:=AI.out;simp only[S8,if_true] at e;rw[<-e];exact AG.out
    ·have hh:Calls Tryz.prog 66 #[.int .i64 2,.int .i64 4] W (C4 W (.bool false)):=A5o W true false false false true false
     have hm:Calls Tryz.prog 123 #[.pointer (some ⟨b0+1,0,none⟩),.int .i64 2] W (C4 (W.setCell ⟨b0+1,0,none⟩ (.int .i64 (fm u2 false false))) (.tuple #[])):=by
      have:=R6 W (b0+1) u2 p g2 true false false AC;rw[Bool.and_true,Bool.and_false,Bool.and_false] at this;exact this
     have AB:=AG.out.setF u2 false false;have AD:=A0 AB;clear AC AB;go_wp2_with (first|(go_at_call 66;refine hh.mono ?_;rintro e w' ⟨rfl,rfl⟩)|(go_at_call 123;refine hm.mono ?_;rintro e w' ⟨rfl,rfl⟩))
     go_meet
     refine⟨?_,AH.out.setCell (p:=⟨b0+1,0,none⟩) (by simp) _⟩;have e:S8 u2 p g2 q 2=ff:=AI.out;rw[show S8 u2 p g2 q 2=(u2,false,false) from rfl] at e;rw[<-e];exact AD.out
    ·have hh:Calls Tryz.prog 66 #[.int .i64 4,.int .i64 4] W (C4 W (.bool true)):=A5o W false true false false true false
     have e:S8 u2 p g2 q 4=ff:=AI.out;rw[show S8 u2 p g2 q 4=(u2&& !q,p,false) from rfl] at e;have HE:=A0 e;clear e;cases q
     ·have hb:Calls Tryz.prog 127 #[.pointer (some ⟨fb,0,none⟩),.int .i64 2] W (C4 (W.setCell ⟨fb,0,none⟩ (.int .i64 6)) (.tuple #[])):=B7J W fb false true false true false false AO
      have Ab:=AG.out.other (j:=fb) ((Fr.refl W.heap.size [fb] W).setCell (p:=⟨fb,0,none⟩) (.inl (by simp)) (.int .i64 6)) (by omega)
      have iV: (W.setCell ⟨fb,0,none⟩ (.int .i64 6)).cell? ⟨fb,0,none⟩=some (.int .i64 6):=by
       rw[Lib.cell_of_heap (B6 _ AO)];rfl
      have hm:Calls Tryz.prog 123 #[.pointer (some ⟨b0+1,0,none⟩),.int .i64 6] (W.setCell ⟨fb,0,none⟩ (.int .i64 6)) (C4 ((W.setCell ⟨fb,0,none⟩ (.int .i64 6)).setCell ⟨b0+1,0,none⟩ (.int .i64 (fm u2 p false))) (.tuple #[])):=by
       have:=R6 _ (b0+1) u2 p g2 true true false Ab.fF;rw[Bool.and_true,Bool.and_true,Bool.and_false] at this;exact this
      have AB:=Ab.setF u2 p false;have AD:=A0 AB;clear AC AB Ab;go_wp2_with (first|(go_at_call 66;refine hh.mono ?_;rintro e w' ⟨rfl,rfl⟩)|(go_at_call 127;refine hb.mono ?_;rintro e w' ⟨rfl,rfl⟩)|(go_at_call 123;refine hm.mono ?_;rintro e w' ⟨rfl,rfl⟩))
      go_meet
      refine⟨?_,(AH.out.setCell (p:=⟨fb,0,none⟩) (by show b0<=fb;omega) _).setCell (p:=⟨b0+1,0,none⟩) (by simp) _⟩;have e:=HE.out;rw[Bool.not_false,Bool.and_true] at e;rw[<-e];exact AD.out
     ·have hm:Calls Tryz.prog 123 #[.pointer (some ⟨b0+1,0,none⟩),.int .i64 4] W (C4 (W.setCell ⟨b0+1,0,none⟩ (.int .i64 (fm false p false))) (.tuple #[])):=by
       have:=R6 W (b0+1) u2 p g2 false true false AC;rw[Bool.and_true,Bool.and_false,Bool.and_false] at this;exact this
      have AB:=AG.out.setF false p false;have AD:=A0 AB;clear AC AB;go_wp2_with (first|(go_at_call 66;refine hh.mono ?_;rintro e w' ⟨rfl,rfl⟩)|(go_at_call 123;refine hm.mono ?_;rintro e w' ⟨rfl,rfl⟩))
      go_meet
      refine⟨?_,AH.out.setCell (p:=⟨b0+1,0,none⟩) (by simp) _⟩;have e:=HE.out;rw[Bool.not_true,Bool.and_false] at e;rw[<-e];exact AD.out
    ·have hh:Calls Tryz.prog 66 #[.int .i64 8,.int .i64 4] W (C4 W (.bool false)):=A5o W false false true false true false
     have hm:Calls Tryz.prog 123 #[.pointer (some ⟨b0+1,0,none⟩),.int .i64 8] W (C4 (W.setCell ⟨b0+1,0,none⟩ (.int .i64 (fm false false g2))) (.tuple #[])):=by
      have:=R6 W (b0+1) u2 p g2 false false true AC;rw[Bool.and_true,Bool.and_false,Bool.and_false] at this;exact this
     have AB:=AG.out.setF false false g2;have AD:=A0 AB;clear AC AB;go_wp2_with (first|(go_at_call 66;refine hh.mono ?_;rintro e w' ⟨rfl,rfl⟩)|(go_at_call 123;refine hm.mono ?_;rintro e w' ⟨rfl,rfl⟩))
     go_meet
     refine⟨?_,AH.out.setCell (p:=⟨b0+1,0,none⟩) (by simp) _⟩;have e:S8 u2 p g2 q 8=ff:=AI.out;rw[show S8 u2 p g2 q 8=(false,false,g2) from rfl] at e;rw[<-e];exact AD.out
   case rest=>
    obtain⟨AA,As⟩:=hcut;clear AO AC BS iU Ae Af BV AG AH AI AE;obtain⟨w9,rfl⟩:∃w9:World,w9=wc:=⟨_,rfl⟩;have Bj: (fm ff.1 ff.2.1 ff.2.2==0)=false:=by rw[beq_eq_false_iff_ne];exact BO.out
    have c2:w9.cell? ⟨b0+1,0,none⟩=some (.int .i64 (fm ff.1 ff.2.1 ff.2.2)):=by rw[Lib.cell_of_heap AA.fF];rfl
    have c3:w9.cell? ⟨b0+2,0,none⟩=some (.map (some (b0+3))):=by rw[Lib.cell_of_heap AA.fM];rfl
    have z2:w9.frozen? ⟨b0+1,0,none⟩=false:=Lib.frozen_of_heap AA.fF 0;have z3:w9.frozen? ⟨b0+2,0,none⟩=false:=Lib.frozen_of_heap AA.fM 0;have BE:=A0 AA;have BH:=A0 As;generalize Aw:fm ff.1 ff.2.1 ff.2.2=fv at*;have BL:=A0 Aw;clear AA As Aw;go_wp2_with fail
    go_region
    go_wp2_with fail
    have AA:=BE.out;have h1:=B6 (i:=0) (.int .i64 fv) AA.fF;have BQ:=(C0 (w:=w9.setCell ⟨b0+1,0,none⟩ (.int .i64 fv)) (a:=⟨b0+2,0,none⟩) (k:=b0+1) (.map (some (b0+3))) (by show b0+1≠b0+2;omega)).trans h1;have h2:=(C0 (w:=w9) (a:=⟨b0+1,0,none⟩) (k:=b0+2) (.int .i64 fv) (by show b0+2≠b0+1;omega)).trans AA.fM;have BR:=B6 (i:=0) (.map (some (b0+3))) h2;have F9:Fr b0 [b0+1,b0+2] w9 ((w9.setCell ⟨b0+1,0,none⟩ (.int .i64 fv)).setCell ⟨b0+2,0,none⟩ (.map (some (b0+3)))).drew:=(((Fr.refl _ _ w9).setCell (p:=⟨b0+1,0,none⟩) (.inl (by simp)) _).setCell (p:=⟨b0+2,0,none⟩) (.inl (by simp)) _).drew;have BW:=AA.le;refine bodyPost_ret (A8M rfl _ _ ⟨b0+1,0,none⟩ ⟨b0+2,0,none⟩ (.int .i64 fv) (.map (some (b0+3))) rfl rfl ?_ ?_) rfl ⟨b0+3,n2,?_,?_,?_,?_,?_,?_⟩
    ·exact(Lib.cell_of_heap BQ 0).trans rfl
    ·exact(Lib.cell_of_heap BR 0).trans rfl
    ·rw[BL.out];rfl
    ·exact AA.mp.fr F9 (by simp)
    ·omega
    ·rw[Aj.out];omega
    ·exact AA.gl.fr F9 BW (by simp;omega)
    ·rw[Aj.out]
     exact(((AX.out.trans (Ai.out.trans BH.out)).setCell (p:=⟨b0+1,0,none⟩) (by simp) _).setCell (p:=⟨b0+2,0,none⟩) (by simp) _).drew
  ·intro k v w1 Aa Bg Bi Ba Ap AT Ax Ac BY Bf
   have Am:=AE.out.other Ac AR;have Ar:Below b0 wr w1:=Fr.below_of Ac (by have:=AE.out.lt;omega) (by simp;omega);obtain⟨BA,Bb,Bc⟩:=AY.out k v Ap;have Bd:=A0c w1 k v Bb Bc BA;have BC:=A0 Am;have AJ:=A0 AT;have BF:=A0 Ar;have BM:=A0 Ax;clear AW Am AT Ar Ax BA Ac Ba Ap BY;go_wp2_with (go_at_call 126;refine Bd.mono ?_;rintro e w' ⟨rfl,rfl⟩)
   go_roundw
   case rel=>exact⟨rfl,A0 ⟨_,Aa,AJ.out,BC.out,Ai.out.trans BF.out⟩⟩
   case measure=>rw[AJ.out.left_eq,Al.out.left_eq];exact BM.out
end Go.Proofs.YtkanmkcojlefbaaGreatDoor
namespace Go.Proofs.YtkanmkcojlefbaaGreatDoor
open Go.RowKit
variable {c0 c5 c6 c7 c9 iW iX iY iZ jA jB jC jD jE jF c20 c21 jG jH jI jJ jK iU iV jL jM jN jO jP jQ jR jS c37 jT jU jV jW jX jY jZ kA c46 kB kC kD kE c51 kF c53 kG kH kI kJ kL kM kO kP kQ kR kS kT kU kV kW kX kY kZ lB lC lD c75 lE lF lG lH c80 lI lJ lL lM c85 lO lP lQ lR lS lT lU lV lW lX lY lZ mA mB aA aB aC aD aF aG aH aI aJ aK aL aM aN aO aP aQ aR aS aT aU aV aW aX aY aZ bB bC c127 bD bE bF bG bH bI bJ bK bL bM bN bO bP bQ bR c143 bS c145 bT bU bV bW bX bY bZ cA cB cC cD cE cF cG cH cI cJ cL cM cO cP c167 c168 cQ cS c171 cT c173 cU c175 cV cW cX cY cZ dA dB dC dD dE dF dG dH dI dJ dL dM dO dP dQ dR dS dT dU dV dW dX dY dZ eA eC eD eH eJ c210 eK c212 c213 eO eR eS eV eW eX eY eZ fA fB fC fD fE fH fI fJ fK fL c232 c233 fN fO fP fQ fR fS fT fU fV fW fX fY fZ gA gB gC gD gE gF gG gH gI gJ gK gL gM gN gO gP gQ gR gT gU gW gX gY gZ hJ hZ iA iB iC iD iE iF iG iH iI iJ iK iL iM iN iO iP iQ iR iS iT:Value}
theorem A6i (G0:Nat) (E:Nat->Addr) (b0:Nat) (H:Hd) (R:KV) (S:St) (w wc:World) (AH:w.heap.size=b0) (AL:H.xattr= .map none)
  (AB:∀k v,R3 S.m R H.typ k=some v->F0 k v=true/\k.length<=2305843009213693952/\v.length<=2305843009213693952)
  (AI:∀k,R k=none) (AA:H.fmt=0\/H.fmt=2\/H.fmt=4\/H.fmt=8)
  (AJ:fm (S8 (S.u&& !false) S.p (S.g&& !false) S.q H.fmt).1 (S8 (S.u&& !false) S.p (S.g&& !false) S.q H.fmt).2.1 (S8 (S.u&& !false) S.p (S.g&& !false) S.q H.fmt).2.2≠0)
  (hA:AFS G0 E b0 H R S 26 wc) (hB:Below b0 w wc):
  Code.wp Tryz.prog B5B (bodyPost Tryz.prog Tryz.f65 (A1l G0 E (S8 (S.u&& !false) S.p (S.g&& !false) S.q H.fmt) (R3 S.m R H.typ) w)) ⟨(c0::.pointer (some ⟨b0,0,none⟩)::.pointer (some ⟨b0+1,0,none⟩)::.pointer (some ⟨b0+2,0,none⟩)::.nilIface::c5::c6::c7::.pointer (some ⟨b0+7,0,none⟩)::c9::iW::iX::iY::iZ::jA::jB::jC::jD::jE::jF::c20::c21::jG::jH::jI::jJ::jK::iU::iV::jL::jM::jN::jO::jP::jQ::jR::jS::c37::jT::jU::jV::jW::jX::jY::jZ::kA::c46::kB::kC::kD::kE::c51::kF::c53::kG::kH::kI::kJ::kL::kM::kO::kP::kQ::kR::kS::kT::kU::kV::kW::kX::kY::kZ::lB::lC::lD::c75::lE::lF::lG::lH::c80::lI::lJ::lL::lM::c85::lO::lP::lQ::lR::lS::lT::lU::lV::lW::lX::lY::lZ::mA::mB::aA::aB::aC::aD::aF::aG::aH::aI::aJ::aK::aL::aM::aN::aO::aP::aQ::aR::aS::aT::aU::aV::aW::aX::aY::aZ::bB::bC::c127::bD::bE::bF::bG::bH::bI::bJ::bK::bL::bM::bN::bO::bP::bQ::bR::c143::bS::c145::bT::bU::bV::bW::bX::bY::bZ::cA::cB::cC::cD::cE::cF::cG::cH::cI::cJ::cL::cM::cO::cP::c167::c168::cQ::cS::c171::cT::c173::cU::c175::cV::cW::cX::cY::cZ::dA::dB::dC::dD::dE::dF::dG::dH::dI::dJ::dL::dM::dO::dP::dQ::dR::dS::dT::dU::dV::dW::dX::dY::dZ::eA::eC::eD::eH::eJ::c210::eK::c212::c213::eO::eR::eS::eV::eW::eX::eY::eZ::fA::fB::fC::fD::fE::fH::fI::fJ::fK::fL::c232::c233::fN::fO::fP::fQ::fR::fS::fT::fU::fV::fW::fX::fY::fZ::gA::gB::gC::gD::gE::gF::gG::gH::gI::gJ::gK::gL::gM::gN::gO::gP::gQ::gR::gT::gU::gW::gX::gY::gZ::hJ::hZ::iA::iB::iC::iD::iE::iF::iG::iH::iI::iJ::iK::iL::iM::iN::iO::iP::iQ::iR::iS::iT::[]).toArray,[]⟩ wc:=by
 conv=>arg 2;whnf
 have AC:=A0 AB;have AO:=A0 AA;have AP:=A0 AJ;have AM:=A0 AH;have HA:=A0 hA;have HB:=A0 hB;have AQ:=A0 AL;have AE:=A0 AI;clear AL AI;clear AH AB AA AJ hA hB;have hx:=HA.out.hd 17 H.xattr rfl;rw[AQ.out] at hx;have AD:=HA.out.hd 18 H.recs rfl;have AT:=A4B wc 3;go_upto_region 53 with fail
 go_cut [196] (λs196 wx=>s196= .bool false/\wx=wc)
 case first=>
  rcases HA.out.rm with ⟨hn,hR⟩|⟨rb,nR,hv,AX,hm,AY⟩
  ·rw[hn] at AD
   go_wp2_with fail
   go_meet
   exact⟨rfl,rfl⟩
  ·rw[hv] at AD
   obtain⟨c,AR,AV,AS⟩:=hm.len_run;have AW:=AR 3;have:c=0:=AS.2 AE.out;subst this;go_wp2_with fail
   go_meet
   exact⟨rfl,rfl⟩
 case rest=>
  obtain⟨rfl,rfl⟩:=hcut;clear hx AT AD;rename_i K1 AG K2 AU;have HK:=A0 AG;clear AG;go_wp2_with fail
  refine HK.out _ _ ?_;have e:=B1F S.m R H.typ AE.out;refine A3w G0 E b0 H R (S.u&& !false) S.p (S.g&& !false) S.q (R3 S.m R H.typ) 26 w wc AM.out AC.out AO.out AP.out ?_ (by omega) HB.out;rw[e,Bool.not_false,Bool.and_true,Bool.and_true];exact HA.out
end Go.Proofs.YtkanmkcojlefbaaGreatDoor
namespace Go.Proofs.YtkanmkcojlefbaaGreatDoor
open Go.RowKit
variable {c0 c5 c6 c7 c9 iW iX iY iZ jA jB jC jD jE jF c20 c21 jG jH jI jJ jK iU iV jL jM jN jO jP jQ jR jS c37 jT jU jV jW jX jY jZ kA c46 kB kC kD kE c51 kF c53 kG kH kI kJ kL kM kO kP kQ kR kS kT kU kV kW kX kY kZ lB lC lD c75 lE lF lG lH c80 lI lJ lL lM c85 lO lP lQ lR lS lT lU lV lW lX lY lZ mA mB aA aB aC aD aF aG aH aI aJ aK aL aM aN aO aP aQ aR aS aT aU aV aW aX aY aZ bB bC c127 bD bE bF bG bH bI bJ bK bL bM bN bO bP bQ bR c143 bS c145 bT bU bV bW bX bY bZ cA cB cC cD cE cF cG cH cI cJ cL cM cO cP c167 c168 cQ cS c171 cT c173 cU c175 cV cW cX cY cZ dA dB dC dD dE dF dG dH dI dJ dL dM dO dP dQ dR dS dT dU dV dW dX dY dZ eA eC eD eH eJ c210 eK c212 c213 eO eR eS eV eW eX eY eZ fA fB fC fD fE fH fI fJ fK fL c232 c233 fN fO fP fQ fR fS fT fU fV fW fX fY fZ gA gB gC gD gE gF gG gH gI gJ gK gL gM gN gO gP gQ gR gT gU gW gX gY gZ hJ hZ iA iB iC iD iE iF iG iH iI iJ iK iL iM iN iO iP iQ iR iS iT:Value}
theorem A6j (G0:Nat) (E:Nat->Addr) (b0:Nat) (H:Hd) (R:KV) (S:St) (w wc:World) (BI:w.heap.size=b0) (BX:48<=H.typ/\H.typ<=55)
  (AY:∀k v,R3 S.m R H.typ k=some v->F0 k v=true/\k.length<=2305843009213693952/\v.length<=2305843009213693952)
  (BR:∃k,R k≠none) (AS:H.fmt=0\/H.fmt=2\/H.fmt=4\/H.fmt=8)
  (BU:fm (S8 (S.u&& !true) S.p (S.g&& !true) S.q H.fmt).1 (S8 (S.u&& !true) S.p (S.g&& !true) S.q H.fmt).2.1 (S8 (S.u&& !true) S.p (S.g&& !true) S.q H.fmt).2.2≠0)
  (hA:AFS G0 E b0 H R S 26 wc) (hB:Below b0 w wc):
  Code.wp Tryz.prog B5B (bodyPost Tryz.prog Tryz.f65 (A1l G0 E (S8 (S.u&& !true) S.p (S.g&& !true) S.q H.fmt) (R3 S.m R H.typ) w)) ⟨(c0::.pointer (some ⟨b0,0,none⟩)::.pointer (some ⟨b0+1,0,none⟩)::.pointer (some ⟨b0+2,0,none⟩)::.nilIface::c5::c6::c7::.pointer (some ⟨b0+7,0,none⟩)::c9::iW::iX::iY::iZ::jA::jB::jC::jD::jE::jF::c20::c21::jG::jH::jI::jJ::jK::iU::iV::jL::jM::jN::jO::jP::jQ::jR::jS::c37::jT::jU::jV::jW::jX::jY::jZ::kA::c46::kB::kC::kD::kE::c51::kF::c53::kG::kH::kI::kJ::kL::kM::kO::kP::kQ::kR::kS::kT::kU::kV::kW::kX::kY::kZ::lB::lC::lD::c75::lE::lF::lG::lH::c80::lI::lJ::lL::lM::c85::lO::lP::lQ::lR::lS::lT::lU::lV::lW::lX::lY::lZ::mA::mB::aA::aB::aC::aD::aF::aG::aH::aI::aJ::aK::aL::aM::aN::aO::aP::aQ::aR::aS::aT::aU::aV::aW::aX::aY::aZ::bB::bC::c127::bD::bE::bF::bG::bH::bI::bJ::bK::bL::bM::bN::bO::bP::bQ::bR::c143::bS::c145::bT::bU::bV::bW::bX::bY::bZ::cA::cB::cC::cD::cE::cF::cG::cH::cI::cJ::cL::cM::cO::cP::c167::c168::cQ::cS::c171::cT::c173::cU::c175::cV::cW::cX::cY::cZ::dA::dB::dC::dD::dE::dF::dG::dH::dI::dJ::dL::dM::dO::dP::dQ::dR::dS::dT::dU::dV::dW::dX::dY::dZ::eA::eC::eD::eH::eJ::c210::eK::c212::c213::eO::eR::eS::eV::eW::eX::eY::eZ::fA::fB::fC::fD::fE::fH::fI::fJ::fK::fL::c232::c233::fN::fO::fP::fQ::fR::fS::fT::fU::fV::fW::fX::fY::fZ::gA::gB::gC::gD::gE::gF::gG::gH::gI::gJ::gK::gL::gM::gN::gO::gP::gQ::gR::gT::gU::gW::gX::gY::gZ::hJ::hZ::iA::iB::iC::iD::iE::iF::iG::iH::iI::iJ::iK::iL::iM::iN::iO::iP::iQ::iR::iS::iT::[]).toArray,[]⟩ wc:=by
 conv=>arg 2;whnf
 have Ai:=A0 AY;have Ba:=A0 AS;have Bc:=A0 BU;have BZ:=A0 BI;have HA:=A0 hA;have HB:=A0 hB;have BE:=A0 BX;have BA:=A0 BR;clear BX BR;clear BI AY AS BU hA hB
 obtain⟨rb,nR,hv,Av,hm,BT⟩:∃rb n,H.recs= .map (some rb)/\rb<b0/\M9 wc rb n R/\n<=4294967296:=by
  rcases HA.out.rm with ⟨hn,hR⟩|h
  ·obtain⟨k,hk⟩:=BA.out
   exact absurd (hR k) hk
  ·exact h
 have AU:=HA.out.hd 18 H.recs rfl;rw[hv] at AU;have HV:=A0 hv;obtain⟨c,BO,Bg,BP⟩:=hm.len_run;have Bh:=BO 3
 have Al: (0:Int)<c:=by
  rcases Nat.eq_zero_or_pos c with h|h
  ·obtain⟨k,hk⟩:=BA.out
   exact absurd (BP.1 h k) hk
  ·omega
 have Am:decide ((0:Int)<c)=true:=decide_eq_true Al;have An:decide (0<c)=true:=decide_eq_true (by omega);clear hv BO Bg BP;go_upto_region 53 with fail
 first|rename_i K1 Ak K2 Bp|rename_i K1 Ak
 have HK:=A0 Ak;clear Ak;go_wp2_with (at_range;refine X3 _ rfl _ rfl rb nR R rfl hm ?_;intro w0 Aj AV BQ Ap Bi)
 go_frame
 have AT:=HA.out.lt;have BC:Hid (A9s G0 E b0 H R S rb nR wc.heap.size wc w0):=A0 ⟨_,Aj,26,AV,by rw[A9V];exact HA.out.other (j:=wc.heap.size) (A0w (Ap.but (some wc.heap.size)) _) (by omega),by omega,Fr.below_of (A0w (Ap.but (some wc.heap.size)) wc.heap.size) (by omega) (by simp;omega)⟩;have BV:b0+7<wc.heap.size:=AT;have Bo:=A0 (rfl:wc=wc);clear AV BQ Ap Bi AU AT hm Bh Al Am An;obtain⟨r0,Ax⟩:∃r0,r0=wc.heap.size:=⟨_,rfl⟩;rw[<-Ax] at BC BV⊢;have Bn:=A0 Ax;clear Ax;go_loopw [21] (λ_ wr=>Hid (A9s G0 E b0 H R S rb nR r0 wc wr)) (λ_ wr=>wr.rangeLeft rb r0)
 case atStart=>exact BC
 case round=>
  obtain⟨AJ,Bf,n2,Ae,BF,BQ,BM⟩:=hrel.out;have Aa:=A0 BF;have AP:=A0 BM;have Ac:=A0 Ae;clear hrel BF BM;go_wp2_with (at_next;refine Z1 _ rfl _ rfl rb r0 nR R AJ Bf rfl Ae ?_ ?_)
  ·intro Al BW
   have hF:=Aa.out.fF;have Aw:=R6 wr (b0+1) S.u S.p S.g false true false hF;rw[show fm false true false=4 from rfl] at Aw;have AR:=Aa.out.setF (S.u&&false) (S.p&&true) (S.g&&false);have Bb:=A0 Aw;have Af:=A0 AR;have Be:=A0 BW;clear Ae hF Aw AR BW;go_wp2_with (go_at_call 123;refine Bb.out.mono ?_;rintro e w' ⟨rfl,rfl⟩)
   refine HK.out _ _ ?_;refine A3w G0 E b0 H R (S.u&& !true) S.p (S.g&& !true) S.q (R3 S.m R H.typ) n2 w _ BZ.out Ai.out Ba.out Bc.out ?_ (by have:=BT;omega) (HB.out.trans (AP.out.setCell (p:=⟨b0+1,0,none⟩) (by simp) _));have:=Af.out;rw[B3F _ _ _ _ Be.out] at this;simp only[Bool.and_true,Bool.and_false,Bool.not_true] at this⊢;exact this
  ·intro k v w1 AD Ar Bk Ay BH AW Av Ao Bj Bq
   have AL:=Aa.out.other Ao BV;have BJ:Below b0 wr w1:=Fr.below_of Ao (by have:=Aa.out.lt;omega) (by simp;omega);have BS: (A1j S.m R H.typ AJ) k=S.m k:=B1H _ _ _ _ _ Ay;have Ad:=AL.mp.look2 A0p k (by unfold maxLen at Ar;omega);rw[BS] at Ad;have c3:w1.cell? ⟨b0+2,0,none⟩=some (.map (some (b0+3))):=by rw[Lib.cell_of_heap AL.fM];rfl
   have ct:=AL.hd 0 (.int .u8 H.typ) rfl;obtain⟨mb,Br,cg,Au⟩:=AL.gl.keys;have AI:=Au.look k (by unfold maxLen at Ar⊢;omega);have AO:=A4v w1 k [71,78,85,46,115,112,97,114,115,101,46];have Bl: (H.typ==103)=false:=by have:=BE.out;rw[beq_eq_false_iff_ne];omega
   have AG:¬H.typ=103:=by have:=BE.out;omega
   have AZ:=A0 AL;have AA:=A0 AW;have Ab:=A0 BJ;have Bm:=A0 Au;have As:k.length<=9223372036854775807:=by unfold maxLen at Ar;omega
   have Az:v.length<=9223372036854775807:=by unfold maxLen at Bk;omega
   clear Ae AL AW BJ BS Ao Au;have AE:=A0 Av;have BD:=A0 Ay;have Bd:=A0 BH;have HQ:=A0 AG;clear Av Ay BH AG Bj;cases AM:S.m k with
   |some u=>
    rw[AM] at Ad;have Ag:=A0 AM;clear AM AO AI;go_wp2_with fail
    go_roundw
    case rel=>exact A0 ⟨_,AD,n2,AA.out,by rw[B1G _ _ _ _ _ _ Ag.out];exact AZ.out,by have:=AE.out;omega,AP.out.trans Ab.out⟩
    case measure=>rw[AA.out.left_eq,Ac.out.left_eq];exact AE.out
   |none=>
    rw[AM] at Ad;have Ag:=A0 AM;clear AM;have eI: (Option.isSome (none:Option (List UInt8)))=false:=rfl;have eG: (Option.getD (none:Option (List UInt8)) [])=[]:=rfl;rw[eI,eG] at Ad;clear eI eG;by_cases AC:k∈F6
    ·rw[decide_eq_true AC] at AI
     have AH:=A0 AC;clear AC AO;go_wp2_with fail
     go_roundw
     case rel=>exact A0 ⟨_,AD,n2,AA.out,by rw[A6P _ _ _ _ _ BD.out (λh=>by rcases h with h|h;exact HQ.out h;exact h.1 AH.out)];exact AZ.out,by have:=AE.out;omega,AP.out.trans Ab.out⟩
     case measure=>rw[AA.out.left_eq,Ac.out.left_eq];exact AE.out
    ·rw[decide_eq_false AC] at AI
     have AH:=A0 AC;clear AC;cases AB:Lib.hasPrefix k [71,78,85,46,115,112,97,114,115,101,46]
     ·rw[AB] at AO
      have Ah:=A0 AB;obtain⟨w2,Bs,AR,BL,Aq⟩:=AZ.out.put2 (by have:=BT;omega) k v As Az;have Af:=A0 AR;have BY:=A0 BL;have AX:K9 w2 rb r0 nR R (λz=>AJ z&& !decide (z=k)) AD:=AA.out.block (Aq rb (by omega) AA.out.owns.lt) (Aq r0 (by omega) AA.out.lt);have AQ:=A0 AX;clear AB AR BL Aq AX;go_wp2_with (go_at_call 125;refine AO.mono ?_;rintro e w' ⟨rfl,rfl⟩)
      go_roundw
      case rel=>exact A0 ⟨_,AD,n2+1,AQ.out,by have:=Af.out;rw[B3G _ _ _ _ _ _ Ag.out Bd.out (.inr ⟨AH.out,Ah.out⟩)] at this;exact this,by have:=AE.out;omega,(AP.out.trans Ab.out).trans BY.out⟩
      case measure=>rw[AQ.out.left_eq,Ac.out.left_eq];exact AE.out
     ·rw[AB] at AO
      have Ah:=A0 AB;clear AB;go_wp2_with (go_at_call 125;refine AO.mono ?_;rintro e w' ⟨rfl,rfl⟩)
      go_roundw
      case rel=>exact A0 ⟨_,AD,n2,AA.out,by rw[A6P _ _ _ _ _ BD.out (λh=>by rcases h with h|h;exact HQ.out h;rw[Ah.out] at h;cases h.2)];exact AZ.out,by have:=AE.out;omega,AP.out.trans Ab.out⟩
      case measure=>rw[AA.out.left_eq,Ac.out.left_eq];exact AE.out
end Go.Proofs.YtkanmkcojlefbaaGreatDoor
namespace Go.Proofs.YtkanmkcojlefbaaGreatDoor
open Go.RowKit
variable {c0 c5 c6 c7 c9 iW iX iY iZ jA jB jC jD jE jF c20 c21 jG jH jI jJ jK iU iV jL jM jN jO jP jQ jR jS c37 jT jU jV jW jX jY jZ kA c46 kB kC kD kE c51 kF c53 kG kH kI kJ kL kM kO kP kQ kR kS kT kU kV kW kX kY kZ lB lC lD c75 lE lF lG lH c80 lI lJ lL lM c85 lO lP lQ lR lS lT lU lV lW lX lY lZ mA mB aA aB aC aD aF aG aH aI aJ aK aL aM aN aO aP aQ aR aS aT aU aV aW aX aY aZ bB bC c127 bD bE bF bG bH bI bJ bK bL bM bN bO bP bQ bR c143 bS c145 bT bU bV bW bX bY bZ cA cB cC cD cE cF cG cH cI cJ cL cM cO cP c167 c168 cQ cS c171 cT c173 cU c175 cV cW cX cY cZ dA dB dC dD dE dF dG dH dI dJ dL dM dO dP dQ dR dS dT dU dV dW dX dY dZ eA eC eD eH eJ c210 eK c212 c213 eO eR eS eV eW eX eY eZ fA fB fC fD fE fH fI fJ fK fL c232 c233 fN fO fP fQ fR fS fT fU fV fW fX fY fZ gA gB gC gD gE gF gG gH gI gJ gK gL gM gN gO gP gQ gR gT gU gW gX gY gZ hJ hZ iA iB iC iD iE iF iG iH iI iJ iK iL iM iN iO iP iQ iR iS iT:Value}
theorem A7R (G0:Nat) (E:Nat->Addr) (b0:Nat) (H:Hd) (R:KV) (S:St) (AA:Bool) (w wc:World) (AM:w.heap.size=b0) (AS:48<=H.typ/\H.typ<=55) (AR:D1 H.typ=true\/0<=H.size) (AT:H.xattr= .map none)
  (AE:∀k v,R3 S.m R H.typ k=some v->F0 k v=true/\k.length<=2305843009213693952/\v.length<=2305843009213693952)
  (AO:AA=false->∀k,R k=none) (AP:AA=true->∃k,R k≠none) (AC:H.fmt=0\/H.fmt=2\/H.fmt=4\/H.fmt=8)
  (AQ:fm (S8 (S.u&& !AA) S.p (S.g&& !AA) S.q H.fmt).1 (S8 (S.u&& !AA) S.p (S.g&& !AA) S.q H.fmt).2.1 (S8 (S.u&& !AA) S.p (S.g&& !AA) S.q H.fmt).2.2≠0)
  (hA:AFS G0 E b0 H R S 26 wc) (hB:Below b0 w wc):
  Code.wp Tryz.prog B7S (bodyPost Tryz.prog Tryz.f65 (A1l G0 E (S8 (S.u&& !AA) S.p (S.g&& !AA) S.q H.fmt) (R3 S.m R H.typ) w)) ⟨(c0::.pointer (some ⟨b0,0,none⟩)::.pointer (some ⟨b0+1,0,none⟩)::.pointer (some ⟨b0+2,0,none⟩)::.nilIface::c5::c6::c7::.pointer (some ⟨b0+7,0,none⟩)::c9::iW::iX::iY::iZ::jA::jB::jC::jD::jE::jF::c20::c21::jG::jH::jI::jJ::jK::iU::iV::jL::jM::jN::jO::jP::jQ::jR::jS::c37::jT::jU::jV::jW::jX::jY::jZ::kA::c46::kB::kC::kD::kE::c51::kF::c53::kG::kH::kI::kJ::kL::kM::kO::kP::kQ::kR::kS::kT::kU::kV::kW::kX::kY::kZ::lB::lC::lD::c75::lE::lF::lG::lH::c80::lI::lJ::lL::lM::c85::lO::lP::lQ::lR::lS::lT::lU::lV::lW::lX::lY::lZ::mA::mB::aA::aB::aC::aD::aF::aG::aH::aI::aJ::aK::aL::aM::aN::aO::aP::aQ::aR::aS::aT::aU::aV::aW::aX::aY::aZ::bB::bC::c127::bD::bE::bF::bG::bH::bI::bJ::bK::bL::bM::bN::bO::bP::bQ::bR::c143::bS::c145::bT::bU::bV::bW::bX::bY::bZ::cA::cB::cC::cD::cE::cF::cG::cH::cI::cJ::cL::cM::cO::cP::c167::c168::cQ::cS::c171::cT::c173::cU::c175::cV::cW::cX::cY::cZ::dA::dB::dC::dD::dE::dF::dG::dH::dI::dJ::dL::dM::dO::dP::dQ::dR::dS::dT::dU::dV::dW::dX::dY::dZ::eA::eC::eD::eH::eJ::c210::eK::c212::c213::eO::eR::eS::eV::eW::eX::eY::eZ::fA::fB::fC::fD::fE::fH::fI::fJ::fK::fL::c232::c233::fN::fO::fP::fQ::fR::fS::fT::fU::fV::fW::fX::fY::fZ::gA::gB::gC::gD::gE::gF::gG::gH::gI::gJ::gK::gL::gM::gN::gO::gP::gQ::gR::gT::gU::gW::gX::gY::gZ::hJ::hZ::iA::iB::iC::iD::iE::iF::iG::iH::iI::iJ::iK::iL::iM::iN::iO::iP::iQ::iR::iS::iT::[]).toArray,[]⟩ wc:=by
 conv=>arg 2;whnf
 have AX:=A0 AS;have AW:=A0 AR;have AJ:=A0 AT;have AB:=A0 AE;have AU:=A0 AO;have AV:=A0 AP;have AH:=A0 AC;have AI:=A0 AQ;have AG:=A0 AM;have HA:=A0 hA;have HB:=A0 hB;have ht:=HA.out.hd 0 (.int .u8 H.typ) rfl;clear AM AS AR AT AE AO AP AC AQ hA hB;have AZ:=HA.out.hd 3 (.int .i64 H.size) rfl;have AD:=A3b wc H.typ;go_upto_region 44 with fail
 go_cut [173] (λs173 wx=>s173= .bool false/\wx=wc)
 case first=>
  cases ho:D1 H.typ
  ·rw[ho] at AD
   have Ab:¬H.size<0:=by
    rcases AW.out with h|h
    ·rw[ho] at h;cases h
    ·omega
   go_wp2_with (go_at_call 124;refine AD.mono ?_;rintro e w' ⟨rfl,rfl⟩)
   go_meet
   exact⟨by simp;omega,rfl⟩
  ·rw[ho] at AD
   go_wp2_with (go_at_call 124;refine AD.mono ?_;rintro e w' ⟨rfl,rfl⟩)
   go_meet
   exact⟨rfl,rfl⟩
 case rest=>
  obtain⟨rfl,rfl⟩:=hcut;clear AZ AD ht;have hx:=HA.out.hd 17 H.xattr rfl;rw[AJ.out] at hx;have AY:=A4B wc 3;go_upto_region 46 with fail
  rename_i K1 AL K2 Aa;have HK:=A0 AL;clear AL;go_wp2_with fail
  refine HK.out _ _ ?_;clear hx AY HK;cases hb:AA
  ·subst hb
   exact A6i G0 E b0 H R S w wc AG.out AJ.out AB.out (AU.out rfl) AH.out AI.out HA.out HB.out
  ·subst hb
   exact A6j G0 E b0 H R S w wc AG.out AX.out AB.out (AV.out rfl) AH.out AI.out HA.out HB.out
end Go.Proofs.YtkanmkcojlefbaaGreatDoor
