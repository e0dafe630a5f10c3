/-
  Part of the proof; holds the texts Cn3, Ch1, Ch2, Hs1.
-/
import Derived.Test.YtkanmkcojlefbaaGreatDoorM39
set_option maxHeartbeats 8000000
set_option maxRecDepth 100000
set_option linter.unusedSimpArgs false
set_option linter.unusedVariables false
namespace Go.Proofs.YtkanmkcojlefbaaGreatDoor
open Go.RowKit
variable {c0 c1 c2 c3 c4 c5 c6 c7 c8 c9 gG gH gI gJ gK gL gM gN gO gP c20 c21 gQ gR gT gU gW gX gY gZ hJ hZ iA iB iC iD iE c37 iF iG iH iI iJ iK iL iM c46 iN iO iP iQ c51 iR c53 iS iT iU iV iW iX iY iZ jA jB jC jD jE jF jG jH jI jJ jK jL jM c75 jN jO jP jQ c80 jR jS jT jU c85 jV jW jX jY jZ kA kB kC kD kE kF kG kH kI aA aB aD aF aG aH aI aJ aK aL aM aN aO aP aQ aR aS aT aU aV aW aX aY aZ bA bB bC c127 bD bE bF bG bH bI bJ bK bL bM bN bO bP bQ bR c143 bS c145 bT bU bV bW bX bY bZ cA cB cC cD cE cF cG cH cI cJ cL cM cO cP c167 c168 cQ cS c171 cT c173 cU c175 cV cW cX cY cZ dA dB dC dD dE dF dG dH dI dJ dL dM dO dP dQ dR dS dT dU dV dW dX dY dZ eA eC eD eH eJ c210 eK c212 c213 eO eR eS eV eW eX eY eZ fA fB fC fD fE fH fI fJ fK fL c232 c233 fN fO fP fQ fR fS fT fU fV fW fX fY fZ gA gB gC gD gE gF:Value}
noncomputable def B5r:Code:=I2 5 (Tryz.f27.body.getD .skip)
noncomputable def B5s:Code:=I2 7 (Tryz.f27.body.getD .skip)
noncomputable def B5t:Code:=I2 9 (Tryz.f27.body.getD .skip)
def B1k (h:IH) (f:Int):Prop:=A0A h.name 256 f/\(f=1->h.name.length<=100\/∃i,A4k h.name i)
def CF9 (h:IH) (L:List (List UInt8×List UInt8)) (f:Int):Prop:=(B1k h f/\A0A h.link 100 f/\Y6 h.user f/\Y6 h.group f)/\B5E h L f
def B1r (h:IH):Prop:=48<=h.typ/\h.typ<=55/\h.name≠ []/\(A0V h.name=true->h.typ=53)
def CF5 (h:IH) (L:List (List UInt8×List UInt8)) (f:Int):Prop:=B1r h/\CF9 h L f
theorem B1z (f:Int) (h:IH) (L:List (List UInt8×List UInt8)) (hb:Nat) (v v4:Int) (w w0:World) (K:CS hb h L w0 w) (hv:tri v) (P:Prop) (AO:h.name.length<4611686018427387904) (AD:h.link.length<4611686018427387904) (AE:h.user.length<4611686018427387904) (AG:h.group.length<4611686018427387904) (hP:v=1->CF9 h L f->P):
  Code.wp Tryz.prog B5t (bodyPost Tryz.prog Tryz.f27 (P9 P w0)) ⟨(c0::.int .i64 f::.pointer (some ⟨hb,0,none⟩)::c3::.int .i64 v4::.int .i64 v::c6::c7::c8::c9::gG::gH::gI::gJ::gK::gL::gM::gN::gO::gP::c20::c21::gQ::gR::gT::gU::gW::gX::gY::gZ::hJ::hZ::iA::iB::iC::iD::iE::c37::iF::iG::iH::iI::iJ::iK::iL::iM::c46::iN::iO::iP::iQ::c51::iR::c53::iS::iT::iU::iV::iW::iX::iY::iZ::jA::jB::jC::jD::jE::jF::jG::jH::jI::jJ::jK::jL::jM::c75::jN::jO::jP::jQ::c80::jR::jS::jT::jU::c85::jV::jW::jX::jY::jZ::kA::kB::kC::kD::kE::kF::kG::kH::kI::aA::aB::aD::aF::aG::aH::aI::aJ::aK::aL::aM::aN::aO::aP::aQ::aR::aS::aT::aU::aV::aW::aX::aY::aZ::bA::bB::bC::c127::bD::bE::bF::bG::bH::bI::bJ::bK::bL::bM::bN::bO::bP::bQ::bR::c143::bS::c145::bT::bU::bV::bW::bX::bY::bZ::cA::cB::cC::cD::cE::cF::cG::cH::cI::cJ::cL::cM::cO::cP::c167::c168::cQ::cS::c171::cT::c173::cU::c175::cV::cW::cX::cY::cZ::dA::dB::dC::dD::dE::dF::dG::dH::dI::dJ::dL::dM::dO::dP::dQ::dR::dS::dT::dU::dV::dW::dX::dY::dZ::eA::eC::eD::eH::eJ::c210::eK::c212::c213::eO::eR::eS::eV::eW::eX::eY::eZ::fA::fB::fC::fD::fE::fH::fI::fJ::fK::fL::c232::c233::fN::fO::fP::fQ::fR::fS::fT::fU::fV::fW::fX::fY::fZ::gA::gB::gC::gD::gE::gF::[]).toArray,[]⟩ w:=by
 conv=>arg 2;whnf
 have HK:=A0 K;have HP:=A0 hP;have HV:=A0 hv;clear K hP hv;have c1:=HK.out.S.cell 1 (str h.name) rfl;refine wp_seq_k (λK1 AJ=> ?_);have AS:=A0 AJ;clear AJ;go_wp2_with fail
 refine(A5O h.name 256 f w AO).mono ?_;rintro e w1 ⟨v6,rfl,AL,AR,AQ⟩;have AC:=A0 (HK.out.below AL);have AI:=A0 AR;have AH:=A0 AQ;clear AL AR AQ c1;go_wp2_with fail
 refine AS.out _ _ ?_;by_cases hf:f=1
 ·subst hf
  by_cases h6:v6=1
  ·subst h6
   have HT:Hid (A0A h.name 256 1):=A0 (AH.out rfl);have c1:=AC.out.S.cell 1 (str h.name) rfl;refine wp_seq_k (λK2 AA=> ?_);have AB:=A0 AA;clear AA;by_cases hl:h.name.length<=100
   ·have AV: (h.name.length:Int)<=100:=by omega
    have HN:Hid (B1k h 1):=A0 ⟨HT.out,λ_=> .inl hl⟩;clear hl;go_wp2_with (go_at_call 55;refine(K6 _ _).mono ?_;rintro e wx ⟨rfl,rfl⟩)
    refine AB.out _ _ ?_;exact A9z 1 h L hb v v4 w1 w0 AC.out HV.out P 1 (.inr (.inl rfl)) AD AE AG (λe k=>HP.out e ⟨⟨HN.out,k.1.2⟩,k.2⟩)
   ·have AV:¬(h.name.length:Int)<=100:=by omega
    go_wp2_with fail
    refine(A9b h.name _ AO).mono ?_;rintro e w2 ⟨b,rfl,AM,AP⟩;have AT:=A0 (AC.out.below AM);have AU:=A0 AP;clear AM AP c1 hl;go_wp2_with (go_at_call 55;refine(K6 _ _).mono ?_;rintro e wx ⟨rfl,rfl⟩)
    refine AB.out _ _ ?_;exact A9z 1 h L hb v v4 w2 w0 AT.out HV.out P (J7 b) (L9 b) AD AE AG (λe k=>HP.out e ⟨⟨⟨HT.out,λ_=> .inr (AU.out (U0 k.1.1))⟩,k.1.2⟩,k.2⟩)
  ·have AW: (v6==1)=false:=by simpa using h6
   refine wp_seq_k (λK2 AA=> ?_);have AB:=A0 AA;clear AA;go_wp2_with fail
   refine AB.out _ _ ?_;exact A9z 1 h L hb v v4 w1 w0 AC.out HV.out P v6 AI.out AD AE AG (λe k=>absurd k.1.1 h6)
 ·have AX: (f==1)=false:=by simpa using hf
  refine wp_seq_k (λK2 AA=> ?_);have AB:=A0 AA;clear AA;go_wp2_with fail
  refine AB.out _ _ ?_;exact A9z f h L hb v v4 w1 w0 AC.out HV.out P v6 AI.out AD AE AG (λe k=>HP.out e ⟨⟨⟨AH.out k.1.1,λe1=>absurd e1 hf⟩,k.1.2⟩,k.2⟩)
theorem A5k (f:Int) (h:IH) (L:List (List UInt8×List UInt8)) (hb:Nat) (v v4:Int) (w w0:World) (K:CS hb h L w0 w) (hv:tri v) (P:Prop) (AC:h.name.length<4611686018427387904) (AD:h.link.length<4611686018427387904) (AE:h.user.length<4611686018427387904) (AG:h.group.length<4611686018427387904) (hP:v=1->CF9 h L f->P):
  Code.wp Tryz.prog B5s (bodyPost Tryz.prog Tryz.f27 (P9 P w0)) ⟨(c0::.int .i64 f::.pointer (some ⟨hb,0,none⟩)::c3::.int .i64 v4::.int .i64 v::c6::c7::c8::c9::gG::gH::gI::gJ::gK::gL::gM::gN::gO::gP::c20::c21::gQ::gR::gT::gU::gW::gX::gY::gZ::hJ::hZ::iA::iB::iC::iD::iE::c37::iF::iG::iH::iI::iJ::iK::iL::iM::c46::iN::iO::iP::iQ::c51::iR::c53::iS::iT::iU::iV::iW::iX::iY::iZ::jA::jB::jC::jD::jE::jF::jG::jH::jI::jJ::jK::jL::jM::c75::jN::jO::jP::jQ::c80::jR::jS::jT::jU::c85::jV::jW::jX::jY::jZ::kA::kB::kC::kD::kE::kF::kG::kH::kI::aA::aB::aD::aF::aG::aH::aI::aJ::aK::aL::aM::aN::aO::aP::aQ::aR::aS::aT::aU::aV::aW::aX::aY::aZ::bA::bB::bC::c127::bD::bE::bF::bG::bH::bI::bJ::bK::bL::bM::bN::bO::bP::bQ::bR::c143::bS::c145::bT::bU::bV::bW::bX::bY::bZ::cA::cB::cC::cD::cE::cF::cG::cH::cI::cJ::cL::cM::cO::cP::c167::c168::cQ::cS::c171::cT::c173::cU::c175::cV::cW::cX::cY::cZ::dA::dB::dC::dD::dE::dF::dG::dH::dI::dJ::dL::dM::dO::dP::dQ::dR::dS::dT::dU::dV::dW::dX::dY::dZ::eA::eC::eD::eH::eJ::c210::eK::c212::c213::eO::eR::eS::eV::eW::eX::eY::eZ::fA::fB::fC::fD::fE::fH::fI::fJ::fK::fL::c232::c233::fN::fO::fP::fQ::fR::fS::fT::fU::fV::fW::fX::fY::fZ::gA::gB::gC::gD::gE::gF::[]).toArray,[]⟩ w:=by
 conv=>arg 2;whnf
 have HK:=A0 K;have HP:=A0 hP;have HV:=A0 hv;clear K hP hv;have c0:=HK.out.S.cell 0 (.int .u8 h.typ) rfl;have c1:=HK.out.S.cell 17 (.int .i64 h.maj) rfl;have c2:=HK.out.S.cell 18 (.int .i64 h.mnr) rfl;by_cases t1:h.typ=51
 ·refine wp_seq_k (λK1 AA=> ?_)
  have AB:=A0 AA;clear AA;go_wp2_with fail
  refine AB.out _ _ ?_;exact B1z f h L hb v v4 w w0 HK.out HV.out P AC AD AE AG (HP.out)
 have AH: (h.typ !=51)=true:=(by simpa using t1);have e1: (h.typ==51)=false:=by simpa using t1
 by_cases t2:h.typ=52
 ·refine wp_seq_k (λK1 AA=> ?_)
  have AB:=A0 AA;clear AA;go_wp2_with fail
  refine AB.out _ _ ?_;exact B1z f h L hb v v4 w w0 HK.out HV.out P AC AD AE AG (HP.out)
 have AI: (h.typ !=52)=true:=(by simpa using t2);have e2: (h.typ==52)=false:=by simpa using t2
 by_cases m1:h.maj=0
 ·by_cases m2:h.mnr=0
  ·refine wp_seq_k (λK1 AA=> ?_)
   have AB:=A0 AA;clear AA;go_wp2_with fail
   refine AB.out _ _ ?_;exact B1z f h L hb v v4 w w0 HK.out HV.out P AC AD AE AG (HP.out)
  ·have AL: (h.mnr !=0)=true:=(by simpa using m2);have e4: (h.mnr==0)=false:=by simpa using m2
   refine wp_seq_k (λK1 AA=> ?_);have AB:=A0 AA;clear AA;go_wp2_with fail
   refine AB.out _ _ ?_;exact B1z f h L hb 0 v4 w w0 HK.out (.inl rfl) P AC AD AE AG (λe _=>absurd e (by decide))
 ·have AJ: (h.maj !=0)=true:=(by simpa using m1);have e3: (h.maj==0)=false:=by simpa using m1
  refine wp_seq_k (λK1 AA=> ?_);have AB:=A0 AA;clear AA;go_wp2_with fail
  refine AB.out _ _ ?_;exact B1z f h L hb 0 v4 w w0 HK.out (.inl rfl) P AC AD AE AG (λe _=>absurd e (by decide))
theorem B8D (f:Int) (h:IH) (L:List (List UInt8×List UInt8)) (hb:Nat) (v4:Int) (w w0:World) (K:CS hb h L w0 w) (P:Prop) (AD:h.name.length<4611686018427387904) (AE:h.link.length<4611686018427387904) (AG:h.user.length<4611686018427387904) (AH:h.group.length<4611686018427387904) (h0:h.typ≠0) (hP:CF5 h L f->P):
  Code.wp Tryz.prog B5r (bodyPost Tryz.prog Tryz.f27 (P9 P w0)) ⟨(c0::.int .i64 f::.pointer (some ⟨hb,0,none⟩)::c3::.int .i64 v4::.int .i64 1::c6::c7::c8::c9::gG::gH::gI::gJ::gK::gL::gM::gN::gO::gP::c20::c21::gQ::gR::gT::gU::gW::gX::gY::gZ::hJ::hZ::iA::iB::iC::iD::iE::c37::iF::iG::iH::iI::iJ::iK::iL::iM::c46::iN::iO::iP::iQ::c51::iR::c53::iS::iT::iU::iV::iW::iX::iY::iZ::jA::jB::jC::jD::jE::jF::jG::jH::jI::jJ::jK::jL::jM::c75::jN::jO::jP::jQ::c80::jR::jS::jT::jU::c85::jV::jW::jX::jY::jZ::kA::kB::kC::kD::kE::kF::kG::kH::kI::aA::aB::aD::aF::aG::aH::aI::aJ::aK::aL::aM::aN::aO::aP::aQ::aR::aS::aT::aU::aV::aW::aX::aY::aZ::bA::bB::bC::c127::bD::bE::bF::bG::bH::bI::bJ::bK::bL::bM::bN::bO::bP::bQ::bR::c143::bS::c145::bT::bU::bV::bW::bX::bY::bZ::cA::cB::cC::cD::cE::cF::cG::cH::cI::cJ::cL::cM::cO::cP::c167::c168::cQ::cS::c171::cT::c173::cU::c175::cV::cW::cX::cY::cZ::dA::dB::dC::dD::dE::dF::dG::dH::dI::dJ::dL::dM::dO::dP::dQ::dR::dS::dT::dU::dV::dW::dX::dY::dZ::eA::eC::eD::eH::eJ::c210::eK::c212::c213::eO::eR::eS::eV::eW::eX::eY::eZ::fA::fB::fC::fD::fE::fH::fI::fJ::fK::fL::c232::c233::fN::fO::fP::fQ::fR::fS::fT::fU::fV::fW::fX::fY::fZ::gA::gB::gC::gD::gE::gF::[]).toArray,[]⟩ w:=by
 conv=>arg 2;whnf
 have HK:=A0 K;have HP:=A0 hP;clear K hP;have c0:=HK.out.S.cell 0 (.int .u8 h.typ) rfl;have c1:=HK.out.S.cell 1 (str h.name) rfl;have c2:=HK.out.S.cell 2 (str h.link) rfl;have AC:=A4F h.name w AD;have AQ: (h.typ !=0)=true:=(by simpa using h0);have e0: (h.typ==0)=false:=by simpa using h0
 by_cases t1:h.typ<48
 ·refine wp_seq_k (λK1 AA=> ?_)
  have AB:=A0 AA;clear AA;go_wp2_with (go_at_call 53;refine AC.mono ?_;rintro e wx ⟨rfl,rfl⟩)
  refine AB.out _ _ ?_;exact A5k f h L hb 0 v4 w w0 HK.out (.inl rfl) P AD AE AG AH (λe _=>absurd e (by decide))
 by_cases t2:55<h.typ
 ·refine wp_seq_k (λK1 AA=> ?_)
  have AB:=A0 AA;clear AA;go_wp2_with (go_at_call 53;refine AC.mono ?_;rintro e wx ⟨rfl,rfl⟩)
  refine AB.out _ _ ?_;exact A5k f h L hb 0 v4 w w0 HK.out (.inl rfl) P AD AE AG AH (λe _=>absurd e (by decide))
 cases AI:h.name.isEmpty with
 |true=>
  refine wp_seq_k (λK1 AA=> ?_);have AB:=A0 AA;clear AA;go_wp2_with (go_at_call 53;refine AC.mono ?_;rintro e wx ⟨rfl,rfl⟩)
  refine AB.out _ _ ?_;exact A5k f h L hb 0 v4 w w0 HK.out (.inl rfl) P AD AE AG AH (λe _=>absurd e (by decide))
 |false=>
  have AP:=A0 AI;cases hs:A0V h.name with
  |true=>
   have HS:=A0 hs;rw[hs] at AC;clear hs;by_cases t3:h.typ=53
   ·have HF:Hid (B1r h):=A0 ⟨by omega,by omega,(λe=>by rw[e] at AI;cases AI),λ_=>t3⟩
    cases AO:h.link.isEmpty with
    |true=>
     refine wp_seq_k (λK1 AA=> ?_);have AB:=A0 AA;clear AA;go_wp2_with (go_at_call 53;refine AC.mono ?_;rintro e wx ⟨rfl,rfl⟩)
     refine AB.out _ _ ?_;exact A5k f h L hb 1 v4 w w0 HK.out (.inr (.inl rfl)) P AD AE AG AH (λe k=>HP.out ⟨HF.out,k⟩)
    |false=>
     have e9: (h.typ==49)=false:=by rw[t3];rfl
     have AL: (h.typ==50)=false:=by rw[t3];rfl
     refine wp_seq_k (λK1 AA=> ?_);have AB:=A0 AA;clear AA;go_wp2_with (go_at_call 53;refine AC.mono ?_;rintro e wx ⟨rfl,rfl⟩)
     refine AB.out _ _ ?_;exact A5k f h L hb 0 v4 w w0 HK.out (.inl rfl) P AD AE AG AH (λe _=>absurd e (by decide))
   ·have AR: (h.typ !=53)=true:=(by simpa using t3);have e3: (h.typ==53)=false:=by simpa using t3
    refine wp_seq_k (λK1 AA=> ?_);have AB:=A0 AA;clear AA;go_wp2_with (go_at_call 53;refine AC.mono ?_;rintro e wx ⟨rfl,rfl⟩)
    refine AB.out _ _ ?_;exact A5k f h L hb 0 v4 w w0 HK.out (.inl rfl) P AD AE AG AH (λe _=>absurd e (by decide))
  |false=>
   have HF:Hid (B1r h):=A0 ⟨by omega,by omega,(λe=>by rw[e] at AI;cases AI),λe=>by rw[hs] at e;cases e⟩;rw[hs] at AC;clear hs;cases AO:h.link.isEmpty with
   |true=>
    refine wp_seq_k (λK1 AA=> ?_);have AB:=A0 AA;clear AA;go_wp2_with (go_at_call 53;refine AC.mono ?_;rintro e wx ⟨rfl,rfl⟩)
    refine AB.out _ _ ?_;exact A5k f h L hb 1 v4 w w0 HK.out (.inr (.inl rfl)) P AD AE AG AH (λe k=>HP.out ⟨HF.out,k⟩)
   |false=>
    by_cases t9:h.typ=49
    ·refine wp_seq_k (λK1 AA=> ?_)
     have AB:=A0 AA;clear AA;go_wp2_with (go_at_call 53;refine AC.mono ?_;rintro e wx ⟨rfl,rfl⟩)
     refine AB.out _ _ ?_;exact A5k f h L hb 1 v4 w w0 HK.out (.inr (.inl rfl)) P AD AE AG AH (λe k=>HP.out ⟨HF.out,k⟩)
    ·have AS: (h.typ !=49)=true:=(by simpa using t9);have e9: (h.typ==49)=false:=by simpa using t9
     by_cases AJ:h.typ=50
     ·refine wp_seq_k (λK1 AA=> ?_)
      have AB:=A0 AA;clear AA;go_wp2_with (go_at_call 53;refine AC.mono ?_;rintro e wx ⟨rfl,rfl⟩)
      refine AB.out _ _ ?_;exact A5k f h L hb 1 v4 w w0 HK.out (.inr (.inl rfl)) P AD AE AG AH (λe k=>HP.out ⟨HF.out,k⟩)
     ·have AM: (h.typ !=50)=true:=(by simpa using AJ);have AL: (h.typ==50)=false:=by simpa using AJ
      refine wp_seq_k (λK1 AA=> ?_);have AB:=A0 AA;clear AA;go_wp2_with (go_at_call 53;refine AC.mono ?_;rintro e wx ⟨rfl,rfl⟩)
      refine AB.out _ _ ?_;exact A5k f h L hb 0 v4 w w0 HK.out (.inl rfl) P AD AE AG AH (λe _=>absurd e (by decide))
def A4g (h:IH) (L:List (List UInt8×List UInt8)) (f:Int):Prop:=A0t h L/\CF5 h.sprom L f
theorem N5.one {w:World} {v:Value} {L:List (List UInt8×List UInt8)} (h:N5 w v L):v.oneCell'=true:=by
 obtain⟨p,c,rfl,-⟩:=h;rfl
theorem N5.up {w w':World} {v:Value} {L:List (List UInt8×List UInt8)} (h:N5 w v L) (hb:Below w.heap.size w w'):N5 w' v L:=by
 obtain⟨p,c,rfl,hc⟩:=h;refine⟨p,c,rfl,λj hj=> ?_⟩;obtain⟨rg,ro,e,AA,q1,q2⟩:=hc j hj;exact⟨rg,ro,e,zL AA hb.size,(hb.cell (p:=⟨rg,ro+j*2,none⟩) AA).trans q1,(hb.cell (p:=⟨rg,ro+j*2+1,none⟩) AA).trans q2⟩
theorem B3Q (h:IH):h.sprom.typ≠0:=by
 unfold IH.sprom;simp only;split
 ·split<;>decide
 ·assumption
theorem B0J (f:Int) (h:IH) (L:List (List UInt8×List UInt8)) (w:World) (hR:N5 w h.recs L) (AB:h.name.length+h.link.length+h.user.length+h.group.length+L1 L<=2305843009213693952) (AL:∀r∈L,r.1.length<4611686018427387904/\r.2.length<4611686018427387904) (AU:L.length<4611686018427387904) (AW:h.name.length<=2147483647) (AX:h.link.length<=2147483647) (AY:h.user.length<=2147483647) (AZ:h.group.length<=2147483647):
  Calls Tryz.prog 27 #[.agg h.scells.toArray,.int .i64 f] w (P9 (A4g h L f) w):=by
 have a1:SB w.heap.size h (w.alloc (.cells h.scells.toArray 31)):=zI w _;have AD:Below w.heap.size w (w.alloc (.cells h.scells.toArray 31)):=(zD _ w).alloc (zB _) _;have KA:CS w.heap.size h L w (w.alloc (.cells h.scells.toArray 31)):=⟨a1,AD,zB _,hR,AL,AU⟩;obtain⟨wA,AE⟩:∃wA,wA=w.alloc (.cells h.scells.toArray 31):=⟨_,rfl⟩;obtain⟨hb,AH⟩:∃hb,hb=w.heap.size:=⟨_,rfl⟩;rw[<-AH,<-AE] at KA;rw[<-AE] at AD;have AC:=A0 (A4G h L wA (N5.up hR AD) AB);have HK:=A0 KA;have HR:=A0 hR.one;have HW:=A0 AE;have HB:=A0 AH;clear a1 KA hR AE AH AD AB AL;go_enter Tryz.func27,Tryz.ntmps27
 go_upto_region 1 with fail
 rw[<-HW.out,<-HB.out];have AA:=A0 HK.out.S.load;go_wp2_with (first|(refine D3 rfl 31 _ rfl ⟨hb,0,none⟩ rfl _ AA.out ?_)|fail)
 refine AC.out.mono ?_;rintro e w1 ⟨b,rfl,AM,AP⟩;have AG:=A0 (HK.out.below AM);have AT:=A0 AP;clear AM AP AC AA;cases b with
 |true=>
  go_wp2_with fail
  go_ret
  exact⟨0,rfl,AG.out.B,.inl rfl,λe=>absurd e (by decide)⟩
 |false=>
  have AA:=A0 AG.out.S.load;have AI:=A0 (A1W h HR.out (by omega) w1);go_upto_region 4 with fail
  rename_i K1 AJ;have AS:=A0 AJ;clear AJ;go_wp2_with (first|(refine D3 rfl 31 _ rfl ⟨hb,0,none⟩ rfl _ AA.out ?_)|fail)
  refine AI.out.mono ?_;rintro e w2 ⟨rfl,AO⟩;have K2:=AG.out.below AO;obtain⟨w3,AQ,hg,ho,hz,AV⟩:=A1X h.sprom HR.out rfl K2.S;have AC:=A0 AQ;have AR:Hid (CS hb h.sprom L w w3):=A0 ⟨hg,hz _ _ K2.B K2.h0,K2.h0,K2.R,K2.RL,K2.RN⟩;clear AQ hg ho hz AV K2 AO AI AA;go_wp2_with (first|(refine E6 rfl 31 _ _ rfl ⟨hb,0,none⟩ rfl _ rfl w3 AC.out ?_)|fail)
  refine AS.out _ _ ?_;exact B8D f h.sprom L hb 0 w3 w AR.out (A4g h L f) (by show h.name.length<_;omega) (by show h.link.length<_;omega) (by show h.user.length<_;omega) (by show h.group.length<_;omega) (B3Q h) (λk=>⟨AT.out (by trivial),k⟩)
end Go.Proofs.YtkanmkcojlefbaaGreatDoor
namespace Go.Proofs.YtkanmkcojlefbaaGreatDoor
open Go.RowKit
theorem W31.set {h:IH} {hb rb:Nat} {w0 w:World} (k:W31 h hb rb w0 w) (i:Nat) (x:Value) (h':IH) (e:h.scells.set i x=h'.scells):W31 h' hb rb w0 (w.setCell ⟨hb,i,none⟩ x):=by
 obtain⟨z,z1,z2⟩:=k.Z;have:=B6 (i:=i) x k.S;rw[List.setIfInBounds_toArray,e] at this;exact⟨this,⟨z,z1,(C0 _ (Ne.symm k.ne)).trans z2⟩,k.B.setCell (p:=⟨hb,i,none⟩) k.h0 _,k.h0,k.r0,k.ne⟩
def IH.bare (h:IH):IH:= {h with mn:=0,hasA:=false,hasC:=false,ats:=0,atn:=0,cts:=0,ctn:=0}
def B6l (h:IH) (L:List (List UInt8×List UInt8)) (w0:World) (e:Ending) (w':World):Prop:=∃ (h2:IH) (v:Int),e= .returned (.tuple #[.agg h2.scells.toArray,.int .i64 v])/\Below w0.heap.size w0 w'/\tri v/\h2.recs.oneCell'=true/\(v=1->∃f:Int,1<=f/\f<=3/\h2=({h with fmt:=f}:IH).sprom/\A4g h L f)
theorem A8N {R:Ending->World->Prop} {fn:Func} {t u:Tmp} {a:Act} (g:Nat) (cs:Array Value) (AA:cs.size=21) (w:World) {ev:Value} (hr:fn.results=#[.cell t 31,.tmp u]) (hp:a.tmps.getD t undef= .pointer (some ⟨g,0,none⟩)) (he:a.tmps.getD u undef=ev) (hd:a.defers=[])
  (hg:w.heap[g]?=some (.cells cs 31 (0,0))) (hR:R (.returned (.tuple #[.agg cs,ev])) w):bodyPost Tryz.prog fn R .ret a w:=by
 refine bodyPost_ret (v:= .tuple #[.agg cs,ev]) ?_ hd hR;have hl:=run_loadVar_row (P:=Tryz.prog) w g 31 31 cs (0,0) _ hg Tryz.underlying31 rfl (by rw[AA];kernel_rfl);rw[results_cell_tmp hr,hp,he];simp[asAddr,Result.andThen,hl]
variable {c0 c4 c5 c6 c7 c8 c9 gG gH gI gJ gK gL gM gN gO gP c20 c21 gQ gR gT gU gW gX gY gZ hJ hZ iA iB iC iD iE c37 iF iG iH iI iJ iK iL iM c46 iN iO iP iQ c51 iR c53 iS iT:Value}
noncomputable def B5u:Code:=I2 9 (Tryz.f8.body.getD .skip)
theorem ch9 (h:IH) (L:List (List UInt8×List UInt8)) (hb rb:Nat) (w w0:World) (K:W31 h hb rb w0 w) (hR:N5 w0 h.recs L) (AD:h.name.length+h.link.length+h.user.length+h.group.length+L1 L<=2305843009213693952) (AM:∀r∈L,r.1.length<4611686018427387904/\r.2.length<4611686018427387904) (AO:L.length<4611686018427387904) (AR:h.name.length<=2147483647) (AS:h.link.length<=2147483647) (AT:h.user.length<=2147483647) (AU:h.group.length<=2147483647) (Rr:Ending->World->Prop) (hQ:∀e w',B6l h.bare L w0 e w'->Rr e w'):
  Code.wp Tryz.prog B5u (bodyPost Tryz.prog Tryz.f8 Rr) ⟨(c0::.pointer (some ⟨hb,0,none⟩)::.pointer (some ⟨rb,0,none⟩)::.int .i64 0::c4::c5::c6::c7::c8::c9::gG::gH::gI::gJ::gK::gL::gM::gN::gO::gP::c20::c21::gQ::gR::gT::gU::gW::gX::gY::gZ::hJ::hZ::iA::iB::iC::iD::iE::c37::iF::iG::iH::iI::iJ::iK::iL::iM::c46::iN::iO::iP::iQ::c51::iR::c53::iS::iT::[]).toArray,[]⟩ w:=by
 conv=>arg 2;whnf
 have AX:=K.S.cell 10 (.int .i64 h.mn) rfl;have AY:=K.S.cell 11 (.bool h.hasA) rfl;have AZ:=K.S.cell 12 (.bool h.hasC) rfl;have Aa:=K.S.cell 13 (.int .i64 h.ats) rfl;have Ab:=K.S.cell 14 (.int .i64 h.atn) rfl;have Ac:=K.S.cell 15 (.int .i64 h.cts) rfl;have Ad:=K.S.cell 16 (.int .i64 h.ctn) rfl;have hz:=K.S.hz;have AV:=A0 (((((((K.set 10 (.int .i64 0) {h with mn:=0} rfl).set 11 (.bool false) {h with mn:=0,hasA:=false} rfl).set 12 (.bool false) {h with mn:=0,hasA:=false,hasC:=false} rfl).set 13 (.int .i64 0) {h with mn:=0,hasA:=false,hasC:=false,ats:=0} rfl).set 14 (.int .i64 0) {h with mn:=0,hasA:=false,hasC:=false,ats:=0,atn:=0} rfl).set 15 (.int .i64 0) {h with mn:=0,hasA:=false,hasC:=false,ats:=0,atn:=0,cts:=0} rfl).set 16 (.int .i64 0) h.bare rfl);clear K;go_upto_region 12 with fail
 generalize (((((((w.setCell ⟨hb,10,none⟩ (Value.int IntKind.i64 0)).setCell ⟨hb,11,none⟩ (Value.bool false)).setCell ⟨hb,12,none⟩ (Value.bool false)).setCell ⟨hb,13,none⟩ (Value.int IntKind.i64 0)).setCell ⟨hb,14,none⟩ (Value.int IntKind.i64 0)).setCell ⟨hb,15,none⟩ (Value.int IntKind.i64 0)).setCell ⟨hb,16,none⟩ (Value.int IntKind.i64 0))=w2 at*;have HC:=A0 (fun(f:Int) (wx:World) (hB:Below w0.heap.size w0 wx)=>B0J f h.bare L wx (N5.up hR hB) AD AM AO AR AS AT AU);have AH:=A0 (fun(f:Int) (wx:World)=>A1W {h.bare with fmt:=f} (N5.one hR) (by show h.name.length<_;omega) wx);have AE:=A0 (show h.bare.recs.oneCell'=true from N5.one hR);have HQ:=A0 hQ;clear hQ hR AD AM AO AR AS AT AU AX AY AZ Aa Ab Ac Ad hz;generalize Af:h.bare=hd at*;go_wp2_with fail
 go_loopw [4] (λs4 wr=>∃f:Int,s4= .int .i64 f/\1<=f/\f<=4/\Hid (W31 hd hb rb w0 wr)) (λs4 _=>(4-intOf s4).toNat)
 case atStart=>exact⟨1,rfl,by omega,by omega,AV⟩
 case round=>
  obtain⟨f,rfl,h1,h4,AA⟩:=hrel;by_cases h3:f<=3
  ·have AB:=A0 AA.out.S.load
   have AI:=A0 (HC.out f wr AA.out.B);go_wp2_with (first|(refine D3 rfl 31 _ rfl ⟨hb,0,none⟩ rfl _ AB.out ?_)|fail)
   refine AI.out.mono ?_;rintro e w3 ⟨v,rfl,AP,hv,hp⟩;have AC:=A0 (AA.out.below AP);have HV:=A0 hv;have HP:=A0 hp;clear AP hv hp AB AI AA;by_cases AG:v=2
   ·subst AG
    go_wp2_with fail
    go_roundw
    case rel=>exact⟨f+1,by go_num,by omega,by omega,AC⟩
    case measure=>simp[intOf];omega
   ·have e2: (v==2)=false:=by simpa using AG
    have e3: (v !=2)=true:=by simpa using AG
    have Ae:=AC.out.S.cell 20 (.int .i64 hd.fmt) rfl;have hz:=AC.out.S.hz;have AJ:=A0 (AC.out.set 20 (.int .i64 f) {hd with fmt:=f} rfl);have AB:=A0 AJ.out.S.load;have AL:=A0 (AH.out f (w3.setCell ⟨hb,20,none⟩ (.int .i64 f)));clear AH HC AC AG;go_wp2_with (first|(refine D3 rfl 31 _ rfl ⟨hb,0,none⟩ rfl _ AB.out ?_)|fail)
    refine AL.out.mono ?_;rintro e w5 ⟨rfl,AQ⟩;have K5:=AJ.out.below AQ;obtain⟨z,z1,z2⟩:=K5.Z;obtain⟨w6,g1,g2,-,g4,-⟩:=A1X ({hd with fmt:=f}:IH).sprom AE.out z1 z2;have G1:=A0 g1;have G2:=A0 g2;have G4:=A0 (g4 _ _ K5.B K5.r0);clear g1 g2 g4 z1 z2 K5 AQ Ae hz AB AL;go_wp2_with (first|(refine E6 rfl 31 _ _ rfl ⟨rb,0,none⟩ rfl _ rfl w6 G1.out ?_)|fail)
    exact A8N rb _ rfl w6 rfl rfl rfl rfl G2.out (HQ.out _ _ ⟨({hd with fmt:=f}:IH).sprom,v,rfl,G4.out,HV.out,AE.out,λe=>⟨f,h1,h3,rfl,HP.out e⟩⟩)
  ·have AW:f=4:=by omega
   subst AW;have AB:=A0 AA.out.S.load;obtain⟨w3,g1,g2,g3⟩:=AA.out.give AE.out;have G1:=A0 g1;have G2:=A0 g2;have G3:=A0 g3;clear g1 g2 g3 AH HC AA;go_wp2_with (first|(refine D3 rfl 31 _ rfl ⟨hb,0,none⟩ rfl _ AB.out ?_)|(refine E6 rfl 31 _ _ rfl ⟨rb,0,none⟩ rfl _ rfl w3 G1.out ?_)|fail)
   exact A8N rb _ rfl w3 rfl rfl rfl rfl G2.out (HQ.out _ _ ⟨hd,2,rfl,G3.out,.inr (.inr rfl),AE.out,λe=>absurd e (by decide)⟩)
def IH.rnd (h:IH):IH:=({h with ms:=if 500000000<h.mn then wrap64 (h.ms+1) else h.ms}:IH).bare
def B1h (h:IH) (L:List (List UInt8×List UInt8)) (h2:IH):Prop:=A0t h L/\((h.fmt≠0/\h2=h.sprom/\A4g h L h.fmt)\/(h.fmt=0/\h.mn≠500000000/\∃f:Int,1<=f/\f<=3/\h2=({h.rnd with fmt:=f}:IH).sprom/\A4g h.rnd L f))
def A3V (h:IH) (L:List (List UInt8×List UInt8)) (w:World) (e:Ending) (w':World):Prop:=∃ (h2:IH) (v:Int),e= .returned (.tuple #[.agg h2.scells.toArray,.int .i64 v])/\Below w.heap.size w w'/\tri v/\h2.recs.oneCell'=true/\(v=1->B1h h L h2)
theorem W31.spr {h:IH} {hb rb:Nat} {w0 w:World} (k:W31 h hb rb w0 w) (hr:h.recs.oneCell'=true):∃w',(storeVar 31 ⟨rb,0,none⟩ (.agg h.sprom.scells.toArray)).run Tryz.prog w= .ok () w'/\(w'.heap[rb]?=some (.cells h.sprom.scells.toArray 31 (0,0))/\SB hb h w')/\Below w0.heap.size w0 w':=by
 obtain⟨z,z1,z2⟩:=k.Z;obtain⟨w',h1,h2,h3,h4,-⟩:=A1X h.sprom (by exact hr) z1 z2;exact⟨w',h1,⟨h2,(h3 hb k.ne).trans k.S⟩,h4 _ _ k.B k.r0⟩
theorem A9Z (h:IH) (L:List (List UInt8×List UInt8)) (w:World) (hR:N5 w h.recs L) (AJ:h.name.length+h.link.length+h.user.length+h.group.length+L1 L<=2305843009213693952) (Ac:∀r∈L,r.1.length<4611686018427387904/\r.2.length<4611686018427387904) (AS:L.length<4611686018427387904) (AU:h.name.length<=2147483647) (AV:h.link.length<=2147483647) (AW:h.user.length<=2147483647) (AX:h.group.length<=2147483647):
  Calls Tryz.prog 8 #[.agg h.scells.toArray] w (A3V h L w):=by
 have HR:=A0 hR;have HO:Hid (h.recs.oneCell'=true):=A0 (N5.one hR);have HS:=A0 AJ;have AO:=A0 Ac;clear hR AJ Ac;go_enter Tryz.func8,Tryz.ntmps8
 go_upto_region 1 with fail
 obtain⟨wA,AY⟩:∃wA,wA=(w.alloc (.cells h.scells.toArray 31)).alloc (.cells #[.int .u8 0,.string {data:=#[]},.string {data:=#[]},.int .i64 0,.int .i64 0,.int .i64 0,.int .i64 0,.string {data:=#[]},.string {data:=#[]},.int .i64 0,.int .i64 0,.bool false,.bool false,.int .i64 0,.int .i64 0,.int .i64 0,.int .i64 0,.int .i64 0,.int .i64 0,.slice none 0 0,.int .i64 0] 31):=⟨_,rfl⟩;rw[<-AY];have KA:W31 h w.heap.size (w.heap.size+1) w wA:=by rw[AY];exact W31.new h w _ rfl
 clear AY;obtain⟨hb,AT⟩:∃hb,hb=w.heap.size:=⟨_,rfl⟩;obtain⟨rb,Ag⟩:∃rb,rb=w.heap.size+1:=⟨_,rfl⟩;rw[<-Ag,<-AT] at KA;rw[<-AT];rw[show hb+1=rb by omega];have HK:=A0 KA;clear KA AT Ag;have Aa:=A0 (A4G h L wA (N5.up HR.out HK.out.B) HS.out);have Aj:=A0 (fun(f:Int) (wx:World) (hB:Below w.heap.size w wx)=>B0J f h L wx (N5.up HR.out hB) HS.out AO.out AS AU AV AW AX);have AD:=A0 HK.out.S.load;go_wp2_with (first|(refine D3 rfl 31 _ rfl ⟨hb,0,none⟩ rfl _ AD.out ?_)|fail)
 refine Aa.out.mono ?_;rintro e w1 ⟨b,rfl,AH,Ah⟩;have AB:=A0 (HK.out.below AH);have AZ:=A0 Ah;clear AH Aa AD HK Ah;cases b with
 |true=>
  have AD:=A0 AB.out.S.load;obtain⟨w3,g1,g2,g3⟩:=AB.out.give HO.out;have G1:=A0 g1;have G2:=A0 g2;have G3:=A0 g3;clear g1 g2 g3;go_wp2_with (first|(refine D3 rfl 31 _ rfl ⟨hb,0,none⟩ rfl _ AD.out ?_)|(refine E6 rfl 31 _ _ rfl ⟨rb,0,none⟩ rfl _ rfl w3 G1.out ?_)|fail)
  exact A8N rb _ rfl w3 rfl rfl rfl rfl G2.out ⟨h,0,rfl,G3.out,.inl rfl,HO.out,λe=>absurd e (by decide)⟩
 |false=>
  have AQ:Hid (A0t h L):=A0 (AZ.out rfl);clear AZ;have c20:=AB.out.S.cell 20 (.int .i64 h.fmt) rfl;by_cases hf:h.fmt=0
  ·have f1: (h.fmt==0)=true:=by simpa using hf
   have f2: (h.fmt !=0)=false:=by simpa using hf
   have HF:=A0 hf;have c9:=AB.out.S.cell 9 (.int .i64 h.ms) rfl;have gG:=AB.out.S.cell 10 (.int .i64 h.mn) rfl;have hz:=AB.out.S.hz;clear hf;by_cases AI:h.mn=500000000
   ·have m1: (h.mn==500000000)=true:=by simpa using AI
    clear AI;have AD:=A0 AB.out.S.load;obtain⟨w3,g1,g2,g3⟩:=AB.out.give HO.out;have G1:=A0 g1;have G2:=A0 g2;have G3:=A0 g3;clear g1 g2 g3;go_wp2_with (first|(refine D3 rfl 31 _ rfl ⟨hb,0,none⟩ rfl _ AD.out ?_)|(refine E6 rfl 31 _ _ rfl ⟨rb,0,none⟩ rfl _ rfl w3 G1.out ?_)|fail)
    exact A8N rb _ rfl w3 rfl rfl rfl rfl G2.out ⟨h,0,rfl,G3.out,.inl rfl,HO.out,λe=>absurd e (by decide)⟩
   ·have m1: (h.mn==500000000)=false:=by simpa using AI
    have HM:=A0 AI;clear AI;by_cases Ae:500000000<h.mn
    ·have AP:Hid (h.rnd=({h with ms:=wrap64 (h.ms+1)}:IH).bare):=A0 (by rw[IH.rnd,if_pos Ae])
     go_upto_region 7 with fail
     rename_i K1 AC K2 AG;have AE:=A0 AC;have AM:=A0 AG;clear AC AG;go_wp2_with fail
     refine AM.out _ _ ?_;go_wp2_with fail
     refine AE.out _ _ ?_;exact ch9 {h with ms:=wrap64 (h.ms+1)} L hb rb _ w (AB.out.set 9 (.int .i64 (wrap64 (h.ms+1))) {h with ms:=wrap64 (h.ms+1)} rfl) HR.out HS.out AO.out AS AU AV AW AX (A3V h L w) (λe w' ⟨h2,v,q1,q2,q3,q4,q5⟩=>⟨h2,v,q1,q2,q3,q4,λe=>⟨AQ.out,.inr ⟨HF.out,HM.out,by rw[AP.out];exact q5 e⟩⟩⟩)
    ·have AP:Hid (h.rnd=h.bare):=A0 (by rw[IH.rnd,if_neg Ae])
     go_upto_region 7 with fail
     rename_i K1 AC K2 AG;have AE:=A0 AC;have AM:=A0 AG;clear AC AG;go_wp2_with fail
     refine AM.out _ _ ?_;go_wp2_with fail
     refine AE.out _ _ ?_;exact ch9 h L hb rb _ w AB.out HR.out HS.out AO.out AS AU AV AW AX (A3V h L w) (λe w' ⟨h2,v,q1,q2,q3,q4,q5⟩=>⟨h2,v,q1,q2,q3,q4,λe=>⟨AQ.out,.inr ⟨HF.out,HM.out,by rw[AP.out];exact q5 e⟩⟩⟩)
  ·have f1: (h.fmt==0)=false:=by simpa using hf
   have f2: (h.fmt !=0)=true:=by simpa using hf
   have HF:=A0 hf;clear hf;go_upto_region 4 with fail
   rename_i K1 AC;have AE:=A0 AC;clear AC;refine J1 (S:=λw'=>SB hb h w') (n:=8) (l0:=(bt 8 0)) (by kernel_rfl) rfl (by kernel_rfl) AB.out.S (λAo AA hHeld=> ?_);have Am:Hid (W31 h hb rb w w1.drew):=A0 (AB.out.below ((zD _ w1).drew));clear AB c20;generalize w1.drew=u0 at*;refine tkL AA.out 0 (λw' AL=>SB.load AL) ?_;refine tkL AA.out 2 (λw' AL=>SB.load AL) ?_;refine tkA AA.out 3 ?_;refine tkL AA.out 4 (λw' AL=>ld3 (AL.cell 20 (.int .i64 h.fmt) rfl)) ?_;refine QF (rs:=[1]) (by rw[AA.out];kernel_rfl) (by simp) ?_;refine D5 AA.out (l':=(bt 8 31)) (by simp only[I8,I9,J0];exact rfl) (by kernel_rfl) (λK hK=> ?_) QC;go_simp
   go_at_call 26
   refine(A1W h HO.out (by omega) _).mono ?_;rintro e u1 ⟨rfl,AH⟩;have AR:=A0 (Am.out.below AH);refine hK.out _ _ AR.out.S (λhHeld=> ?_);clear hK K AH;try simp only[Act.put,C5,C6,C7]
   refine QF (rs:=[5]) (by rw[AA.out];kernel_rfl) (by simp) ?_;refine D5 AA.out (l':=(bt 8 63)) (by simp only[I8,I9,J0];exact rfl) (by kernel_rfl) (λK hK=> ?_) QC;go_simp
   go_at_call 27
   refine(Aj.out h.fmt u1 AR.out.B).mono ?_;rintro e u2 ⟨v,rfl,Ad,Ai,Af⟩;have Ab:=A0 (AR.out.below Ad);have HV:=A0 Ai;have HP:=A0 Af;refine hK.out _ _ Ab.out.S (λhHeld=> ?_);clear hK K Ad Ai Af;try simp only[Act.put,C5,C6,C7]
   refine QF (rs:=[6]) (by rw[AA.out];kernel_rfl) (by simp) ?_;refine D5 AA.out (l':=(bt 8 127)) (by simp only[I8,I9,J0];exact rfl) (by kernel_rfl) (λK hK=> ?_) QC;obtain⟨w3,g1,g2,g3⟩:=(Ab.out.spr HO.out);refine O3 rfl 31 _ _ rfl ⟨rb,0,none⟩ rfl _ rfl w3 g1 ?_;have Ak:=A0 g2.1;have An:=A0 g2.2;have Al:=A0 g3;refine hK.out _ _ An.out (λhHeld=> ?_);clear hK K g1 g2 g3;try simp only[Act.put,C5,C6,C7]
   refine tkA AA.out 7 ?_;refine wpAnyH_done (by rw[AA.out];kernel_rfl) ?_ _;refine AE.out _ _ ?_;go_wp2_with fail
   exact A8N rb _ rfl w3 rfl rfl rfl rfl Ak.out ⟨h.sprom,v,rfl,Al.out,HV.out,HO.out,λe=>⟨AQ.out,.inl ⟨HF.out,rfl,HP.out e⟩⟩⟩
def A0g (L:List (List UInt8×List UInt8)) (key:List UInt8):Option (List UInt8):=(L.reverse.find? (λp=>p.1==key)).map (·.2)
theorem A8t (L:List (List UInt8×List UInt8)) (key:List UInt8) (k:Nat) (hk:k<L.length):A0g (L.take (k+1)) key=if L[k].1=key then some L[k].2 else A0g (L.take k) key:=by
 rw[A0g,zU hk,List.reverse_append,List.reverse_singleton,List.singleton_append,List.find?_cons];by_cases h:L[k].1=key
 ·simp[h]
 ·have e: (L[k].1==key)=false:=by simpa using h
  simp[h,e,A0g]
def B3k (L:List (List UInt8×List UInt8)) (key:List UInt8) (w:World) (e:Ending) (w':World):Prop:=e= .returned (.tuple #[str ((A0g L key).getD []),.bool (A0g L key).isSome])/\Below w.heap.size w w'
theorem B3N (v:Value) (L:List (List UInt8×List UInt8)) (key:List UInt8) (w:World) (hR:N5 w v L) (hL:L.length<4611686018427387904):Calls Tryz.prog 76 #[v,str key] w (B3k L key w):=by
 obtain⟨p,c,rfl,AB⟩:=hR;have AE:=A0 AB;clear AB;go_enter Tryz.func76,Tryz.ntmps76
 go_wp2_with fail
 go_loopw [12,6,7] (λs12 s6 s7 wr=>∃ (k:Nat) (x:Option (List UInt8)),s12= .int .i64 k/\k<=L.length/\s6=str (x.getD [])/\s7= .bool x.isSome/\Hid (A0g (L.take k) key=x/\Below w.heap.size w wr)) (λs12 _ _ _=>L.length- (intOf s12).toNat)
 case atStart=>exact⟨0,none,rfl,zW _,rfl,rfl,A0 ⟨rfl,zD _ _⟩⟩
 case round=>
  obtain⟨k,x,rfl,hk,rfl,rfl,HS⟩:=hrel;by_cases AC:k<L.length
  ·have AA: (k:Int)<L.length:=by omega
   obtain⟨rg,ro,rfl,AD,k1,k2⟩:=AE.out k AC;have ck:wr.cell? ⟨rg,ro+k*2,none⟩=some (str L[k].1):=(HS.out.2.cell (p:=⟨rg,ro+k*2,none⟩) AD).trans k1;have cv:wr.cell? ⟨rg,ro+k*2+1,none⟩=some (str L[k].2):=(HS.out.2.cell (p:=⟨rg,ro+k*2+1,none⟩) AD).trans k2;have HT:=A0 (A8t L key k AC);have HB:Hid (∀o,Below w.heap.size w (wr.alloc o)):=A0 λo=>HS.out.2.alloc HS.out.2.size o;have HX:=A0 HS.out.1;clear k1 k2 HS;generalize L[k].1=kk at*;generalize L[k].2=vv at*;by_cases he:kk=key
   ·have HE:=A0 he
    have e1: (kk==key)=true:=by simpa using he
    clear he;go_wp2_with fail
    go_roundw
    case rel=>exact⟨k+1,some vv,by go_num,by omega,rfl,rfl,A0 ⟨by rw[HT.out,if_pos HE.out],HB.out _⟩⟩
    case measure=>first|(simp[intOf];done)|(simp[intOf];omega)
   ·have HE:=A0 he
    have e1: (kk==key)=false:=by simpa using he
    clear he;go_wp2_with fail
    go_roundw
    case rel=>exact⟨k+1,x,by go_num,by omega,rfl,rfl,A0 ⟨by rw[HT.out,if_neg HE.out,HX.out],HB.out _⟩⟩
    case measure=>first|(simp[intOf];done)|(simp[intOf];omega)
  ·have AA:¬(k:Int)<L.length:=by omega
   have HF:Hid (A0g L key=x):=A0 (by have:=HS.out.1;rwa [List.take_of_length_le (by omega)] at this);have HB:=A0 HS.out.2;clear HS;go_wp2_with fail
   go_ret2
   exact⟨by rw[HF.out];rfl,HB.out⟩
def B1j (L M:List (List UInt8×List UInt8)):Prop:=∀ (i:Nat) (hi:i<M.length),(∀ (j:Nat) (hj:j<M.length),i<j->M[j].1≠M[i].1)->A0g L M[i].1=some M[i].2
theorem B4d (v:Value) (L M:List (List UInt8×List UInt8)) (q:Option Addr) (cc:Nat) (w:World) (hR:N5 w v L) (hM:N5 w (.slice q M.length cc) M) (Ad:M.length<=cc) (hL:L.length<4611686018427387904) (Ac:M.length<4611686018427387904) (Ae:cc<=9223372036854775807) (hO:B1j L M):
  Calls Tryz.prog 39 #[v,.slice q M.length cc] w λe w'=>e= .returned (.bool true)/\Below w.heap.size w w':=by
 have HR:=A0 hR;have HO:=A0 hO;obtain⟨p,c,hv,AR⟩:=hM;injection hv with h1 h2 h3
 subst h1;subst h3;have AO:=A0 AR;clear hR hO AR h2;have HF:=A0 (fun(wx:World) (key:List UInt8) (hb:Below w.heap.size w wx)=>B3N v L key wx (N5.up HR.out hb) hL);go_enter Tryz.func39,Tryz.ntmps39
 go_wp2_with fail
 go_loopw [14] (λs14 wr=>∃k:Nat,s14= .int .i64 k/\k<=M.length/\Hid (Below w.heap.size w wr)) (λs14 _=>M.length- (intOf s14).toNat)
 case atStart=>exact⟨0,rfl,zW _,A0 (zD _ _)⟩
 case round=>
  obtain⟨k,rfl,hk,HB⟩:=hrel;by_cases AS:k<M.length
  ·have AL: (k:Int)<M.length:=by omega
   obtain⟨rg,ro,rfl,AD,k1,k2⟩:=AO.out k AS;have ck:wr.cell? ⟨rg,ro+k*2,none⟩=some (str M[k].1):=(HB.out.cell (p:=⟨rg,ro+k*2,none⟩) AD).trans k1;have cv:wr.cell? ⟨rg,ro+k*2+1,none⟩=some (str M[k].2):=(HB.out.cell (p:=⟨rg,ro+k*2+1,none⟩) AD).trans k2;have AX:Hid ((∀ (j:Nat) (hj:j<M.length),k<j->M[j].1≠M[k].1)->A0g L M[k].1=some M[k].2):=A0 (HO.out k AS);clear k1 k2;generalize M[k].1=kk at*;generalize M[k].2=vv at*;have Ah:IntKind.i64.wrap ((k:Int)+1)=((k+1:Nat):Int):=by rw[zQ _ (by omega)];omega
   have HG:Hid ((wr.alloc (.cells #[str kk,str vv] 108)).heap[wr.heap.size]?=some (.cells #[str kk,str vv] 108 (0,0))/\Below w.heap.size w (wr.alloc (.cells #[str kk,str vv] 108))):=A0 ⟨zI wr _,HB.out.alloc HB.out.size _⟩;have AV:Hid (w.heap.size<=wr.heap.size):=A0 HB.out.size;obtain⟨g,hg⟩:∃g,g=wr.heap.size:=⟨_,rfl⟩;obtain⟨wA,AM⟩:∃wA,wA=wr.alloc (.cells #[str kk,str vv] 108):=⟨_,rfl⟩;rw[<-AM,<-hg] at HG;rw[<-hg] at AV;by_cases AH:cc=k+1
   all_goals
    first|subst AH|skip
    go_upto_region 4 with fail
    rw[<-AM,<-hg];have HH:=A0 hg;clear AM hg ck cv HB;go_wp2_with fail
    go_loopw [24,7] (λs24 s7 wi=>∃ (j:Nat) (b:Bool),s24= .int .i64 j/\s7= .bool b/\j<=M.length- (k+1)/\Hid ((wi.heap[g]?=some (.cells #[str kk,str vv] 108 (0,0))/\Below w.heap.size w wi)/\(b=true->∀ (i:Nat) (hi:i<M.length),k<i->i<k+1+j->M[i].1≠kk))) (λs24 _ _=>M.length- (k+1)- (intOf s24).toNat)
    case atStart=>exact⟨0,true,rfl,rfl,zW _,A0 ⟨HG.out,λ_ i _ h1 h2=>by omega⟩⟩
    case round=>
     obtain⟨j,b,rfl,rfl,hj,HI⟩:=hrel;have HA:=A0 HI.out.1.1;have AA:=A0 HI.out.1.2;have y0:wr.cell? ⟨g,0,none⟩=some (str kk):=by rw[zA HA.out 0];rfl
     have y1:wr.cell? ⟨g,1,none⟩=some (str vv):=by rw[zA HA.out 1];rfl
     by_cases Af:j<M.length- (k+1)
     ·have AJ: (j:Int)< ((M.length- (k+1):Nat):Int):=by omega
      have AZ:k+1+j<M.length:=by omega
      obtain⟨Aa,Ab,e2,-,k1,k2⟩:=AO.out (k+1+j) AZ;obtain⟨rfl,rfl⟩:rg=Aa/\ro=Ab:=by injection e2 with e2;injection e2 with e3 e4;exact⟨e3,e4⟩
      have ck:wr.cell? ⟨rg,ro+(k+1)*2+j*2,none⟩=some (str M[k+1+j].1):=by
       rw[show ro+(k+1)*2+j*2=ro+(k+1+j)*2 by omega];exact(AA.out.cell (p:=⟨rg,ro+(k+1+j)*2,none⟩) AD).trans k1
      have cv:wr.cell? ⟨rg,ro+(k+1)*2+j*2+1,none⟩=some (str M[k+1+j].2):=by
       rw[show ro+(k+1)*2+j*2=ro+(k+1+j)*2 by omega];exact(AA.out.cell (p:=⟨rg,ro+(k+1+j)*2+1,none⟩) AD).trans k2
      have HE:Hid (∀ (b2:Bool),(b2=true->b=true/\M[k+1+j].1≠kk)->b2=true->∀ (i:Nat) (hi:i<M.length),k<i->i<k+1+(j+1)->M[i].1≠kk):=A0 λb2 AQ e i hi h1 h2=>by
       by_cases AY:i=k+1+j
       ·subst AY;exact(AQ e).2
       ·exact HI.out.2 (AQ e).1 i hi h1 (by omega)
      have AI:g<wr.heap.size:=A8 HA.out;have HN:Hid (∀o,(wr.alloc o).heap[g]?=some (.cells #[str kk,str vv] 108 (0,0))/\Below w.heap.size w (wr.alloc o)):=A0 λo=>⟨(zO _ _ _ AI).trans HA.out,AA.out.alloc AA.out.size o⟩;have AU:=A0 AI;clear k1 k2 e2 HI HA AA AI;generalize M[k+1+j].1=k3 at*;generalize M[k+1+j].2=v3 at*;have Ag:g≠wr.heap.size:=Nat.ne_of_lt AU.out;cases b with
      |false=>
       go_wp2_with fail
       all_goals go_roundw
       all_goals first|exact⟨j+1,false,by go_num,rfl,by omega,A0 ⟨HN.out _,HE.out false (λe=>absurd e (by decide))⟩⟩|(simp[intOf];done)|(simp[intOf];omega)
      |true=>
       have Ai:∀o,(wr.alloc o).cell? ⟨g,0,none⟩=some (str kk):=λo=>by rw[zA (HN.out o).1 0];rfl
       by_cases AB:k3=kk
       ·have e1: (k3==kk)=true:=by simpa using AB
        have e2: (k3 !=kk)=false:=by simpa using AB
        clear AB;go_wp2_with fail
        all_goals go_roundw
        all_goals first|exact⟨j+1,false,by go_num,rfl,by omega,A0 ⟨HN.out _,HE.out false (λe=>absurd e (by decide))⟩⟩|(simp[intOf];done)|(simp[intOf];omega)
       ·have e1: (k3==kk)=false:=by simpa using AB
        have e2: (k3 !=kk)=true:=by simpa using AB
        have AW:=A0 AB;clear AB;go_wp2_with fail
        all_goals go_roundw
        all_goals first|exact⟨j+1,true,by go_num,rfl,by omega,A0 ⟨HN.out _,HE.out true (λ_=>⟨rfl,AW.out⟩)⟩⟩|(simp[intOf];done)|(simp[intOf];omega)
     ·have AJ:¬(j:Int)< ((M.length- (k+1):Nat):Int):=by omega
      have HL:Hid (b=true->A0g L kk=some vv):=A0 λe=>AX.out (λi hi h1=>HI.out.2 e i hi h1 (by omega));have AG:=A0 (HF.out wr kk AA.out);clear HI;cases b with
      |false=>
       go_wp2_with fail
       refine AG.out.mono ?_;rintro e w5 ⟨rfl,AC⟩;have AE:=A0 (AA.out.trans (AC.mono AA.out.size));clear AC y0 y1;go_wp2_with fail
       go_roundw
       case rel=>exact⟨k+1,by go_num,by omega,AE⟩
       case measure=>first|(simp[intOf];done)|(simp[intOf];omega)
      |true=>
       have AT:Hid (A0g L kk=some vv):=A0 (HL.out rfl);have AP:Hid (Calls Tryz.prog 76 #[v,str kk] wr λe w'=>e= .returned (.tuple #[str vv,.bool true])/\Below wr.heap.size wr w'):=A0 (AG.out.mono λe w' h=>⟨by rw[h.1,AT.out];rfl,h.2⟩);clear AG HL;go_wp2_with fail
       refine AP.out.mono ?_;rintro e w5 ⟨rfl,AC⟩;have AE:=A0 (AA.out.trans (AC.mono AA.out.size));have z1:w5.cell? ⟨g,1,none⟩=some (str vv):=(AC.cell (p:=⟨g,1,none⟩) (A8 HA.out)).trans y1;clear AC y0 y1 AP;go_wp2_with fail
       go_roundw
       case rel=>exact⟨k+1,by go_num,by omega,AE⟩
       case measure=>first|(simp[intOf];done)|(simp[intOf];omega)
  ·have AL:¬(k:Int)<M.length:=by omega
   go_wp2_with fail
   go_ret
   exact⟨rfl,HB.out⟩
end Go.Proofs.YtkanmkcojlefbaaGreatDoor
