/-
  Part of the proof; holds the texts AllowCT, AllowA, GlbW.
-/
import Derived.Test.YtkanmkcojlefbaaGreatDoorM16
set_option maxHeartbeats 8000000
set_option maxRecDepth 100000
set_option linter.unusedSimpArgs false
set_option linter.unusedVariables false
namespace Go.Proofs.YtkanmkcojlefbaaGreatDoor
open Go.RowKit
variable {c0 c5 c6 c7 c9 iU iV iW iX iY iZ jA jC jD jB c20 c21 jE jF jG jH jI jJ jK jL jM jN jO jP jQ jR jS c37 jT jU jV jW jX jY jZ kA c46 kB kC kD kE c51 kF c53 kG kH kI kJ kL kM kO kP kQ kR kS kT kU kV kW kX kY kZ lA lB lC c75 lD lE lF lG c80 lH lI lJ lL c85 lM lO lP lQ lR lS lT lU lV lW lX lY lZ mA aA aB aD aF aG aH aI aJ aK aL aM aN aO aP aQ aR aS aT aU aV aW aX aY aZ bA bB bC c127 bD bE bF bG bH bI bJ bK bL bM bN bO bP bQ bR c143 bS c145 bT bU bV bW bX bY bZ cA cB cC cD cE cF cG cH cI cJ cL cM cO cP c167 c168 cQ cS c171 cT c173 cU c175 cV cW cX cY cZ dA dB dC dD dE dF dG dH dI dJ dL dM dO dP dQ dR dS dT dU dV dW dX dY dZ eA eC eD eH eJ c210 eK c212 c213 eO eR eS eV eW eX eY eZ fA fB fC fD fE fH fI fJ fK fL c232 c233 fN fO fP fQ fR fS fT fU fV fW fX fY fZ gA gB gC gD gE gF gG gH gI gJ gK gL gM gN gO gP gQ gR gT gU gW gX gY gZ hJ hZ iA iB iC iD iE iF iG iH iI iJ iK iL iM iN iO iP iQ iR iS iT:Value}
theorem A6j (G0:Nat) (E:Nat->Addr) (b0:Nat) (H:Hd) (R:KV) (S:St) (w wc:World) (BM:w.heap.size=b0)
  (Ae:∀k v,R3 S.m R H.typ k=some v->F0 k v=true/\k.length<=2305843009213693952/\v.length<=2305843009213693952)
  (BT:∃k,R k≠none) (AY:H.fmt=0\/H.fmt=2\/H.fmt=4\/H.fmt=8)
  (BV:fm (S8 (S.u&& !true) S.p (S.g&& !true) S.q H.fmt).1 (S8 (S.u&& !true) S.p (S.g&& !true) S.q H.fmt).2.1 (S8 (S.u&& !true) S.p (S.g&& !true) S.q H.fmt).2.2≠0)
  (hA:AFS G0 E b0 H R S 26 wc) (hB:Below b0 w wc):
  Code.wp Tryz.prog B5B (bodyPost Tryz.prog Tryz.f65 (A1l G0 E (S8 (S.u&& !true) S.p (S.g&& !true) S.q H.fmt) (R3 S.m R H.typ) w)) ⟨(c0::.pointer (some ⟨b0,0,none⟩)::.pointer (some ⟨b0+1,0,none⟩)::.pointer (some ⟨b0+2,0,none⟩)::.nilIface::c5::c6::c7::.pointer (some ⟨b0+7,0,none⟩)::c9::iU::iV::iW::iX::iY::iZ::jA::jC::jD::jB::c20::c21::jE::jF::jG::jH::jI::jJ::jK::jL::jM::jN::jO::jP::jQ::jR::jS::c37::jT::jU::jV::jW::jX::jY::jZ::kA::c46::kB::kC::kD::kE::c51::kF::c53::kG::kH::kI::kJ::kL::kM::kO::kP::kQ::kR::kS::kT::kU::kV::kW::kX::kY::kZ::lA::lB::lC::c75::lD::lE::lF::lG::c80::lH::lI::lJ::lL::c85::lM::lO::lP::lQ::lR::lS::lT::lU::lV::lW::lX::lY::lZ::mA::aA::aB::aD::aF::aG::aH::aI::aJ::aK::aL::aM::aN::aO::aP::aQ::aR::aS::aT::aU::aV::aW::aX::aY::aZ::bA::bB::bC::c127::bD::bE::bF::bG::bH::bI::bJ::bK::bL::bM::bN::bO::bP::bQ::bR::c143::bS::c145::bT::bU::bV::bW::bX::bY::bZ::cA::cB::cC::cD::cE::cF::cG::cH::cI::cJ::cL::cM::cO::cP::c167::c168::cQ::cS::c171::cT::c173::cU::c175::cV::cW::cX::cY::cZ::dA::dB::dC::dD::dE::dF::dG::dH::dI::dJ::dL::dM::dO::dP::dQ::dR::dS::dT::dU::dV::dW::dX::dY::dZ::eA::eC::eD::eH::eJ::c210::eK::c212::c213::eO::eR::eS::eV::eW::eX::eY::eZ::fA::fB::fC::fD::fE::fH::fI::fJ::fK::fL::c232::c233::fN::fO::fP::fQ::fR::fS::fT::fU::fV::fW::fX::fY::fZ::gA::gB::gC::gD::gE::gF::gG::gH::gI::gJ::gK::gL::gM::gN::gO::gP::gQ::gR::gT::gU::gW::gX::gY::gZ::hJ::hZ::iA::iB::iC::iD::iE::iF::iG::iH::iI::iJ::iK::iL::iM::iN::iO::iP::iQ::iR::iS::iT::[]).toArray,[]⟩ wc:=by
 conv=>arg 2;whnf
 have Am:=A0 Ae;have BZ:=A0 AY;have Bb:=A0 BV;have BY:=A0 BM;have HA:=A0 hA;have HB:=A0 hB;have BE:=A0 BT;clear BT;clear BM Ae AY BV hA hB
 obtain⟨rb,nR,hv,Ax,hm,Az⟩:∃rb n,H.recs= .map (some rb)/\rb<b0/\M9 wc rb n R/\n<=4294967296:=by
  rcases HA.out.rm with ⟨hn,hR⟩|h
  ·obtain⟨k,hk⟩:=BE.out
   exact absurd (hR k) hk
  ·exact h
 have Ab:=HA.out.hd 18 H.recs rfl;rw[hv] at Ab;have HV:=A0 hv;obtain⟨c,BQ,Be,BR⟩:=hm.len_run;have Bg:=BQ 3
 have Ap: (0:Int)<c:=by
  rcases Nat.eq_zero_or_pos c with h|h
  ·obtain⟨k,hk⟩:=BE.out
   exact absurd (BR.1 h k) hk
  ·omega
 have Aq:decide ((0:Int)<c)=true:=zY Ap;have Ar:decide (0<c)=true:=zY (by omega);clear hv BQ Be BR;go_upto_region 53 with fail
 first|rename_i K1 Ao K2 Bo|rename_i K1 Ao
 have HK:=A0 Ao;clear Ao;go_wp2_with (at_range;refine X3 _ rfl _ rfl rb nR R rfl hm ?_;intro w0 An Ac BS Au Bh)
 go_frame
 have Aa:=HA.out.lt;have BF:Hid (A9s G0 E b0 H R S rb nR wc.heap.size wc w0):=A0 ⟨_,An,26,Ac,by rw[A9V];exact HA.out.other (j:=wc.heap.size) (A0w (Au.but (some wc.heap.size)) _) (by omega),by omega,Fr.below_of (A0w (Au.but (some wc.heap.size)) wc.heap.size) (by omega) (by simp;omega)⟩;have BW:b0+7<wc.heap.size:=Aa;have Bn:=A0 (rfl:wc=wc);clear Ac BS Au Bh Ab Aa hm Bg Ap Aq Ar;obtain⟨r0,BA⟩:∃r0,r0=wc.heap.size:=⟨_,rfl⟩;rw[<-BA] at BF BW⊢;have Bm:=A0 BA;clear BA;go_loopw [21] (λ_ wr=>Hid (A9s G0 E b0 H R S rb nR r0 wc wr)) (λ_ wr=>wr.rangeLeft rb r0)
 case atStart=>exact BF
 case round=>
  obtain⟨AJ,Bd,n2,Aj,BJ,BS,BP⟩:=hrel.out;have Ag:=A0 BJ;have AQ:=A0 BP;have AW:=A0 Aj;clear hrel BJ BP;go_wp2_with (at_next;refine Z1 _ rfl _ rfl rb r0 nR R AJ Bd rfl Aj ?_ ?_)
  ·intro Ap BX
   have hF:=Ag.out.fF;have Ay:=R6 wr (b0+1) S.u S.p S.g false true false hF;rw[show fm false true false=4 from rfl] at Ay;have AL:=Ag.out.setF (S.u&&false) (S.p&&true) (S.g&&false);have Ba:=A0 Ay;have AU:=A0 AL;have Bc:=A0 BX;clear Aj hF Ay AL BX;go_wp2_with (go_at_call 123;refine Ba.out.mono ?_;rintro e w' ⟨rfl,rfl⟩)
   refine HK.out _ _ ?_;refine A3w G0 E b0 H R (S.u&& !true) S.p (S.g&& !true) S.q (R3 S.m R H.typ) n2 w _ BY.out Am.out BZ.out Bb.out ?_ (by have:=Az;omega) (HB.out.trans (AQ.out.setCell (p:=⟨b0+1,0,none⟩) (by simp) _));have:=AU.out;rw[B3F _ _ _ _ Bc.out] at this;simp only[Bool.and_true,Bool.and_false,Bool.not_true] at this⊢;exact this
  ·intro k v w1 AB Av Bk BC BL Ad Ax As Bi Bp
   have AR:=Ag.out.other As BW;have BO:Below b0 wr w1:=Fr.below_of As (by have:=Ag.out.lt;omega) (by simp;omega);have BU: (A1j S.m R H.typ AJ) k=S.m k:=B1H _ _ _ _ _ BC;have Ai:=AR.mp.look2 A0p k (by unfold maxLen at Av;omega);rw[BU] at Ai;have c3:w1.cell? ⟨b0+2,0,none⟩=some (.map (some (b0+3))):=by rw[zA AR.fM];rfl
   have ct:=AR.hd 0 (.int .u8 H.typ) rfl;obtain⟨mb,Bq,cg,Aw⟩:=AR.gl.keys;have AI:=Aw.look k (by unfold maxLen at Av⊢;omega);have AP:=A4v w1 k [71,78,85,46,115,112,97,114,115,101,46];have AT:=A0 AR;have AA:=A0 Ad;have AV:=A0 BO;have Bl:=A0 Aw;have AZ:k.length<=9223372036854775807:=by unfold maxLen at Av;omega
   have Af:v.length<=9223372036854775807:=by unfold maxLen at Bk;omega
   clear Aj AR Ad BO BU As Aw;have AH:=A0 Ax;have BI:=A0 BC;have BH:=A0 BL;clear Ax BC BL Bi;cases AS:S.m k with
   |some u=>
    rw[AS] at Ai;have Ah:=A0 AS;clear AS AP AI;go_wp2_with fail
    go_roundw
    case rel=>exact A0 ⟨_,AB,n2,AA.out,by rw[B1G _ _ _ _ _ _ Ah.out];exact AT.out,by have:=AH.out;omega,AQ.out.trans AV.out⟩
    case measure=>rw[AA.out.left_eq,AW.out.left_eq];exact AH.out
   |none=>
    rw[AS] at Ai;have Ah:=A0 AS;clear AS;have eI: (Option.isSome (none:Option (List UInt8)))=false:=rfl;have eG: (Option.getD (none:Option (List UInt8)) [])=[]:=rfl;rw[eI,eG] at Ai;clear eI eG;by_cases hq:H.typ=103
    ·have BD: (H.typ==103)=true:=by simpa using hq
     obtain⟨w2,Bj,AL,AX,AO⟩:=AT.out.put2 (by have:=Az;omega) k v AZ Af;have AU:=A0 AL;have Ak:=A0 AX;have AG:K9 w2 rb r0 nR R (λz=>AJ z&& !decide (z=k)) AB:=AA.out.block (AO rb (by omega) AA.out.owns.lt) (AO r0 (by omega) AA.out.lt);have AE:=A0 AG;clear AL AX AO AG AP AI;go_wp2_with fail
     go_roundw
     case rel=>exact A0 ⟨_,AB,n2+1,AE.out,by have:=AU.out;rw[B3G _ _ _ _ _ _ Ah.out BH.out (.inl hq)] at this;exact this,by have:=AH.out;omega,(AQ.out.trans AV.out).trans Ak.out⟩
     case measure=>rw[AE.out.left_eq,AW.out.left_eq];exact AH.out
    have BD: (H.typ==103)=false:=by rw[zG];exact hq
    have HQ:=A0 hq;clear hq;by_cases AD:k∈F6
    ·rw[zY AD] at AI
     have AM:=A0 AD;clear AD AP;go_wp2_with fail
     go_roundw
     case rel=>exact A0 ⟨_,AB,n2,AA.out,by rw[A6P _ _ _ _ _ BI.out (λh=>by rcases h with h|h;exact HQ.out h;exact h.1 AM.out)];exact AT.out,by have:=AH.out;omega,AQ.out.trans AV.out⟩
     case measure=>rw[AA.out.left_eq,AW.out.left_eq];exact AH.out
    ·rw[zV AD] at AI
     have AM:=A0 AD;clear AD;cases AC:Lib.hasPrefix k [71,78,85,46,115,112,97,114,115,101,46]
     ·rw[AC] at AP
      have Al:=A0 AC;obtain⟨w2,Bj,AL,AX,AO⟩:=AT.out.put2 (by have:=Az;omega) k v AZ Af;have AU:=A0 AL;have Ak:=A0 AX;have AG:K9 w2 rb r0 nR R (λz=>AJ z&& !decide (z=k)) AB:=AA.out.block (AO rb (by omega) AA.out.owns.lt) (AO r0 (by omega) AA.out.lt);have AE:=A0 AG;clear AC AL AX AO AG;go_wp2_with (go_at_call 125;refine AP.mono ?_;rintro e w' ⟨rfl,rfl⟩)
      go_roundw
      case rel=>exact A0 ⟨_,AB,n2+1,AE.out,by have:=AU.out;rw[B3G _ _ _ _ _ _ Ah.out BH.out (.inr ⟨AM.out,Al.out⟩)] at this;exact this,by have:=AH.out;omega,(AQ.out.trans AV.out).trans Ak.out⟩
      case measure=>rw[AE.out.left_eq,AW.out.left_eq];exact AH.out
     ·rw[AC] at AP
      have Al:=A0 AC;clear AC;go_wp2_with (go_at_call 125;refine AP.mono ?_;rintro e w' ⟨rfl,rfl⟩)
      go_roundw
      case rel=>exact A0 ⟨_,AB,n2,AA.out,by rw[A6P _ _ _ _ _ BI.out (λh=>by rcases h with h|h;exact HQ.out h;rw[Al.out] at h;cases h.2)];exact AT.out,by have:=AH.out;omega,AQ.out.trans AV.out⟩
      case measure=>rw[AA.out.left_eq,AW.out.left_eq];exact AH.out
end Go.Proofs.YtkanmkcojlefbaaGreatDoor
namespace Go.Proofs.YtkanmkcojlefbaaGreatDoor
open Go.RowKit
variable {c0 c5 c6 c7 c9 iU iV iW iX iY iZ jA jC jD jB c20 c21 jE jF jG jH jI jJ jK jL jM jN jO jP jQ jR jS c37 jT jU jV jW jX jY jZ kA c46 kB kC kD kE c51 kF c53 kG kH kI kJ kL kM kO kP kQ kR kS kT kU kV kW kX kY kZ lA lB lC c75 lD lE lF lG c80 lH lI lJ lL c85 lM lO lP lQ lR lS lT lU lV lW lX lY lZ mA aA aB aD aF aG aH aI aJ aK aL aM aN aO aP aQ aR aS aT aU aV aW aX aY aZ bA bB bC c127 bD bE bF bG bH bI bJ bK bL bM bN bO bP bQ bR c143 bS c145 bT bU bV bW bX bY bZ cA cB cC cD cE cF cG cH cI cJ cL cM cO cP c167 c168 cQ cS c171 cT c173 cU c175 cV cW cX cY cZ dA dB dC dD dE dF dG dH dI dJ dL dM dO dP dQ dR dS dT dU dV dW dX dY dZ eA eC eD eH eJ c210 eK c212 c213 eO eR eS eV eW eX eY eZ fA fB fC fD fE fH fI fJ fK fL c232 c233 fN fO fP fQ fR fS fT fU fV fW fX fY fZ gA gB gC gD gE gF gG gH gI gJ gK gL gM gN gO gP gQ gR gT gU gW gX gY gZ hJ hZ iA iB iC iD iE iF iG iH iI iJ iK iL iM iN iO iP iQ iR iS iT:Value}
theorem A7R (G0:Nat) (E:Nat->Addr) (b0:Nat) (H:Hd) (R:KV) (S:St) (AA:Bool) (w wc:World) (AM:w.heap.size=b0) (AR:D1 H.typ=true\/0<=H.size) (AS:H.xattr= .map none)
  (AE:∀k v,R3 S.m R H.typ k=some v->F0 k v=true/\k.length<=2305843009213693952/\v.length<=2305843009213693952)
  (AO:AA=false->∀k,R k=none) (AP:AA=true->∃k,R k≠none) (AC:H.fmt=0\/H.fmt=2\/H.fmt=4\/H.fmt=8)
  (AQ:fm (S8 (S.u&& !AA) S.p (S.g&& !AA) S.q H.fmt).1 (S8 (S.u&& !AA) S.p (S.g&& !AA) S.q H.fmt).2.1 (S8 (S.u&& !AA) S.p (S.g&& !AA) S.q H.fmt).2.2≠0)
  (hA:AFS G0 E b0 H R S 26 wc) (hB:Below b0 w wc):
  Code.wp Tryz.prog B7S (bodyPost Tryz.prog Tryz.f65 (A1l G0 E (S8 (S.u&& !AA) S.p (S.g&& !AA) S.q H.fmt) (R3 S.m R H.typ) w)) ⟨(c0::.pointer (some ⟨b0,0,none⟩)::.pointer (some ⟨b0+1,0,none⟩)::.pointer (some ⟨b0+2,0,none⟩)::.nilIface::c5::c6::c7::.pointer (some ⟨b0+7,0,none⟩)::c9::iU::iV::iW::iX::iY::iZ::jA::jC::jD::jB::c20::c21::jE::jF::jG::jH::jI::jJ::jK::jL::jM::jN::jO::jP::jQ::jR::jS::c37::jT::jU::jV::jW::jX::jY::jZ::kA::c46::kB::kC::kD::kE::c51::kF::c53::kG::kH::kI::kJ::kL::kM::kO::kP::kQ::kR::kS::kT::kU::kV::kW::kX::kY::kZ::lA::lB::lC::c75::lD::lE::lF::lG::c80::lH::lI::lJ::lL::c85::lM::lO::lP::lQ::lR::lS::lT::lU::lV::lW::lX::lY::lZ::mA::aA::aB::aD::aF::aG::aH::aI::aJ::aK::aL::aM::aN::aO::aP::aQ::aR::aS::aT::aU::aV::aW::aX::aY::aZ::bA::bB::bC::c127::bD::bE::bF::bG::bH::bI::bJ::bK::bL::bM::bN::bO::bP::bQ::bR::c143::bS::c145::bT::bU::bV::bW::bX::bY::bZ::cA::cB::cC::cD::cE::cF::cG::cH::cI::cJ::cL::cM::cO::cP::c167::c168::cQ::cS::c171::cT::c173::cU::c175::cV::cW::cX::cY::cZ::dA::dB::dC::dD::dE::dF::dG::dH::dI::dJ::dL::dM::dO::dP::dQ::dR::dS::dT::dU::dV::dW::dX::dY::dZ::eA::eC::eD::eH::eJ::c210::eK::c212::c213::eO::eR::eS::eV::eW::eX::eY::eZ::fA::fB::fC::fD::fE::fH::fI::fJ::fK::fL::c232::c233::fN::fO::fP::fQ::fR::fS::fT::fU::fV::fW::fX::fY::fZ::gA::gB::gC::gD::gE::gF::gG::gH::gI::gJ::gK::gL::gM::gN::gO::gP::gQ::gR::gT::gU::gW::gX::gY::gZ::hJ::hZ::iA::iB::iC::iD::iE::iF::iG::iH::iI::iJ::iK::iL::iM::iN::iO::iP::iQ::iR::iS::iT::[]).toArray,[]⟩ wc:=by
 conv=>arg 2;whnf
 have AV:=A0 AR;have AJ:=A0 AS;have AB:=A0 AE;have AT:=A0 AO;have AU:=A0 AP;have AH:=A0 AC;have AI:=A0 AQ;have AG:=A0 AM;have HA:=A0 hA;have HB:=A0 hB;have ht:=HA.out.hd 0 (.int .u8 H.typ) rfl;clear AM AR AS AE AO AP AC AQ hA hB;have AX:=HA.out.hd 3 (.int .i64 H.size) rfl;have AD:=A3b wc H.typ;go_upto_region 44 with fail
 go_cut [173] (λs173 wx=>s173= .bool false/\wx=wc)
 case first=>
  cases ho:D1 H.typ
  ·rw[ho] at AD
   have AZ:¬H.size<0:=by
    rcases AV.out with h|h
    ·rw[ho] at h;cases h
    ·omega
   go_wp2_with (go_at_call 124;refine AD.mono ?_;rintro e w' ⟨rfl,rfl⟩)
   go_meet
   exact⟨by simp;omega,rfl⟩
  ·rw[ho] at AD
   go_wp2_with (go_at_call 124;refine AD.mono ?_;rintro e w' ⟨rfl,rfl⟩)
   go_meet
   exact⟨rfl,rfl⟩
 case rest=>
  obtain⟨rfl,rfl⟩:=hcut;clear AX AD ht;have hx:=HA.out.hd 17 H.xattr rfl;rw[AJ.out] at hx;have AW:=A4B wc 3;go_upto_region 46 with fail
  rename_i K1 AL K2 AY;have HK:=A0 AL;clear AL;go_wp2_with fail
  refine HK.out _ _ ?_;clear hx AW HK;cases hb:AA
  ·subst hb
   exact A6i G0 E b0 H R S w wc AG.out AJ.out AB.out (AT.out rfl) AH.out AI.out HA.out HB.out
  ·subst hb
   exact A6j G0 E b0 H R S w wc AG.out AB.out (AU.out rfl) AH.out AI.out HA.out HB.out
end Go.Proofs.YtkanmkcojlefbaaGreatDoor
namespace Go.Proofs.YtkanmkcojlefbaaGreatDoor
open Go.RowKit
def gHd (rv:Value) (f:Int):Hd:=⟨103,[],[],0,0,0,0,[],[],0,0,0,0,0,0,0,0,.map none,rv,f⟩
def Hd0:Hd:=⟨0,[],[],0,0,0,0,[],[],0,0,0,0,0,0,0,0,.map none,.map none,0⟩
theorem B9T (rb:Nat) (f:Int):Tryz.prog.built 130 [(1,str []),(0,.int .u8 103),(14,.map none),(15,.map (some rb)),(16,.int .i64 f)]=some (gHd (.map (some rb)) f).cells.toArray:=by kernel_rfl
theorem A1k {AA:Array Oper} {rest:List Oper} {o:Oper} {a:Act} {w:World} {Q:Exit->Act->World->Prop} (hg:o.guard=none) (t:TypeId) (xs:Array (Nat×Operand)) (AB:o.op=Op.build t xs) (vs:List (Nat×Value)) (hx: (xs.toList.map λp=>(p.1,a.eval p.2))=vs) (u:Array Value) (hb:Tryz.prog.built t vs=some u)
  (h:wpList Tryz.prog AA Q rest (a.put o.dst (.agg u)) w):wpList Tryz.prog AA Q (o::rest) a w:=
 wpList_plain hg λ_ hK=>by
  unfold Oper.wp execOp;have hr:=run_build (P:=Tryz.prog) w t (xs.map λp=>(p.1,a.eval p.2)) u (by rw[Array.toList_map,hx];exact hb);simp only[AB,Sem.run_bind,hr,Result.andThen_ok];exact hK _ _ h
theorem hkc {w:World} {g:Nat} {cs:Array Value} {T:TypeId} (h:w.heap[g]?=some (.cells cs T (0,0))) (i:Nat) (v:Value) (hv:cs[i]?=some v):w.cell? ⟨g,i,none⟩=some v:=by
 rw[zA h];exact hv
theorem B9s {w:World} {g:Nat} {z:Array Value} (H:Hd) (h1:H.xattr.oneCell'=true) (h2:H.recs.oneCell'=true) (hz:z.size=20) (hg:w.heap[g]?=some (.cells z 130 (0,0))):
  ∃w',(storeVar 130 ⟨g,0,none⟩ (.agg H.cells.toArray)).run Tryz.prog w= .ok () w'/\w'.heap[g]?=some (.cells H.cells.toArray 130 (0,0))/\(∀ (B:Nat) (w0:World),Below B w0 w->B<=g->Below B w0 w'):=by
 have hs:=A1V w g 0 130 130 z H.cells.toArray hg (by rw[B0G];rfl) (by rw[hz];exact zB 20) (by simpa using B5V H h1 h2)
 have e2:z.toList.take 0++H.cells.toArray.toList++z.toList.drop (0+H.cells.toArray.size)=H.cells:=by
  rw[List.take_zero,List.nil_append,List.drop_eq_nil_of_le (by rw[Array.length_toList,hz];exact zB 20),QH]
 rw[e2] at hs;refine⟨_,hs,setRow_heap w g z _ 130 _ hg,λB w0 hb hB=> ?_⟩;exact⟨hb.os,hb.tape,hb.output,by simpa using hb.size,λk hk=>(setRow_other w g k _ (by omega)).trans (hb.block k hk)⟩
theorem C1E (rv:Value) (f:Int) (w:World):Calls Tryz.prog 122 #[.agg (gHd rv f).cells.toArray,.agg (gHd rv f).cells.toArray] w λe w'=>e= .returned (.bool true)/\Below w.heap.size w w':=by
 have s1: (w.alloc (.cells (gHd rv f).cells.toArray 130)).heap.size=w.heap.size+1:=Array.size_push ..;have hA: ((w.alloc (.cells (gHd rv f).cells.toArray 130)).alloc (.cells (gHd rv f).cells.toArray 130)).heap[w.heap.size]?=some (.cells (gHd rv f).cells.toArray 130 (0,0)):=(zO _ _ _ (by omega)).trans (zI w _);have hB: ((w.alloc (.cells (gHd rv f).cells.toArray 130)).alloc (.cells (gHd rv f).cells.toArray 130)).heap[w.heap.size+1]?=some (.cells (gHd rv f).cells.toArray 130 (0,0)):=by rw[<-s1];exact zI _ _
 have AA:Hid (Below w.heap.size w ((w.alloc (.cells (gHd rv f).cells.toArray 130)).alloc (.cells (gHd rv f).cells.toArray 130))):=A0 (((zD _ w).alloc (zB _) _).alloc (by omega) _);have c0:=hkc hA 0 (.int .u8 103) rfl;have d0:=hkc hB 0 (.int .u8 103) rfl;have c1:=hkc hA 1 (str []) rfl;have d1:=hkc hB 1 (str []) rfl;have c2:=hkc hA 2 (str []) rfl;have d2:=hkc hB 2 (str []) rfl;have c3:=hkc hA 3 (.int .i64 0) rfl;have d3:=hkc hB 3 (.int .i64 0) rfl;have c4:=hkc hA 4 (.int .i64 0) rfl;have d4:=hkc hB 4 (.int .i64 0) rfl;have c5:=hkc hA 5 (.int .i64 0) rfl;have d5:=hkc hB 5 (.int .i64 0) rfl;have c6:=hkc hA 6 (.int .i64 0) rfl;have d6:=hkc hB 6 (.int .i64 0) rfl;have c7:=hkc hA 7 (str []) rfl;have d7:=hkc hB 7 (str []) rfl;have c8:=hkc hA 8 (str []) rfl;have d8:=hkc hB 8 (str []) rfl;have c9:=hkc hA 9 (.int .u64 0) rfl;have d9:=hkc hB 9 (.int .u64 0) rfl;have iU:=hkc hA 10 (.int .i64 0) rfl;have mB:=hkc hB 10 (.int .i64 0) rfl;have iV:=hkc hA 11 (.int .u64 0) rfl;have mC:=hkc hB 11 (.int .u64 0) rfl;have iW:=hkc hA 12 (.int .i64 0) rfl;have mD:=hkc hB 12 (.int .i64 0) rfl;have iX:=hkc hA 13 (.int .u64 0) rfl;have mE:=hkc hB 13 (.int .u64 0) rfl;have iY:=hkc hA 14 (.int .i64 0) rfl;have mF:=hkc hB 14 (.int .i64 0) rfl;have iZ:=hkc hA 15 (.int .i64 0) rfl;have mG:=hkc hB 15 (.int .i64 0) rfl;have jA:=hkc hA 16 (.int .i64 0) rfl;have mH:=hkc hB 16 (.int .i64 0) rfl;have jB:=hkc hA 19 (.int .i64 f) rfl;have mI:=hkc hB 19 (.int .i64 f) rfl;clear hA hB s1
 go_enter Tryz.func122,Tryz.ntmps122
 go_wp2_with fail
 go_ret
 exact⟨rfl,AA.out⟩
end Go.Proofs.YtkanmkcojlefbaaGreatDoor
