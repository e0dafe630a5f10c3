/-
  Part of the proof; holds the texts RN1, RNX, RNext, RH2G.
-/
import Derived.Test.YtkanmkcojlefbaaGreatDoorM28
set_option maxHeartbeats 8000000
set_option maxRecDepth 100000
set_option linter.unusedSimpArgs false
set_option linter.unusedVariables false
namespace Go.Proofs.YtkanmkcojlefbaaGreatDoor
open Go.RowKit
variable {c1 c2 c3 c4 c5 c6 c8 c9 mU vR vS jP jQ jR jS jT jU jO c20 c21 jV jW jX jY jZ kA kB kC kD kE kF kG kH kI kJ c37 kL kM kO kP kQ kR kS kT c46 kU kV kW kX c51 kY c53 kZ lA lB lC lD lE lF lG lH lI lJ lL lM lO lP lQ lR lS lT lU lV c75 lW lX lY lZ c80 mA mB mC mD c85 mE mF mG mH mI mJ mL mM mO mP mQ mR mS mT aA aB aD aF aG aH aI aJ aK aL aM aN aO aP aQ aR aS aT aU aV aW aX aY aZ bA bB bC c127 bD bE bF bG bH bI bJ bK bL bM bN bO bP bQ bR c143 bS c145 bT bU bV bW bX bY bZ cA cB cC cD cE cF cG cH cI cJ cL cM cO cP c167 c168 cQ cS c171 cT c173 cU c175 cV cW cX cY cZ dA dB dC dD dE dF dG dH dI dJ dL dM dO dP dQ dR dS dT dU dV dW dX dY:Value}
def RHC (B:C1) (H9:Hd):Prop:=∀ (w:World) (tr r g n c i:Nat) (AC:Int) (AA AB:Value) (bs:List UInt8) (AD:List Value),RD r g n c i w->TR tr r AC AA AD AB w->i+512<=n->n<4611686018427387904->n<=c->bs.length=n->At w g 0 (Lib.byteCells bs)->g∉[r,tr]->(bs.drop i).take 512=B.bytes->
 Calls Tryz.prog 148 #[.pointer (some ⟨tr,0,none⟩)] w (B1o tr r g n c i AC AA AB B H9 w)
theorem B5z {B:C1} {V:RdV} (hR:RdF B V):RHC B (O7 B V):=λw tr r g n c i AD AA AC bs AB h1 h2 h3 h4 h5 h6 h7 h8 h9=>A9S w tr r g n c i AD AA AC bs AB B V hR h1 h2 h3 h4 h5 h6 h7 h8 h9
structure Rd1 (tr r g n c i fb:Nat) (pu pp pg:Bool) (bs:List UInt8) (aE:Addr) (B:C1) (H9:Hd) (nb:Int) (hb fr:Nat) (v0 w0 w:World):Prop where
 nbx:NB tr r g fb pu pp pg bs aE v0 w
 H:w.heap[hb]?=some (.cells H9.cells.toArray 130 (0,0))
 R:RD r g n c (i+512) w
 T:TR tr r (E7 nb) (.iface 146 (.pointer (some ⟨fr,0,none⟩))) (Lib.byteCells B.bytes) .nilIface w
 F:FRd fr r nb w
 hb0:v0.heap.size<=hb
 fr0:v0.heap.size<=fr
 hbf:hb≠fb
 frf:fr≠fb
 lb:w0.heap.size<=hb
 fw:Fr w0.heap.size [r,tr,fb] w0 w
theorem rd1 (tr r g n c i AA fb AI:Nat) (pu pp pg:Bool) (bs:List UInt8) (aE:Addr) (B:C1) (H9:Hd) (fu fp fg:Bool) (BR:H9.fmt=fm fu fp fg) (nb:Int) (Ax:List Value) (v0 w:World) (hR:RHC B H9) (Ag:NB tr r g fb pu pp pg bs aE v0 w) (h:RD r g n c i w) (hf:FRd AI r 0 w) (ht:TR tr r AA (.iface 146 (.pointer (some ⟨AI,0,none⟩))) Ax .nilIface w)
  (hi:i+AA+512<=n) (hp:AA<512) (AM:n<4611686018427387904) (BE:n<=c) (BA:bs.length=n) (hB: (bs.drop (i+AA)).take 512=B.bytes) (AQ:nb=if D1 H9.typ then 0 else H9.size) (h0:0<=nb) (h1:nb<=9223372036854775807) (Bb:fb<w.heap.size)
  (Q:Exit->Act->World->Prop)
  (hQ:∀ (d1 d2 d3 d8 d9 sB sC sD sE sF sG sH sI sJ sK sL sM sN sO sP sQ sR sS sT sU sV sW sX sY sZ tA tB tC tD tE tF tH tI tJ tL tM tO tP tQ tR tS tT tU tV tW tX tY tZ uA uB uC uD uE uF uG uH uI uJ uK uL uM uN uO uP uQ uR uS uT uU uW uX uY uZ vA vB vC vD vE vF vG vH vI vJ vL vM vO vP vQ dZ eA eC eD eH eJ eK eO eR eS eV eW eX eY eZ fA fB fC fD fE fH fI fJ fK fL fN fO fP fQ fR fS fT fU fV fW fX fY fZ gA gB gC gD gE gF gG gH gI gJ gK gL gM gN gO gP gQ gR gT gU gW gX gY gZ hJ hZ iA iB iC iD iE iF iG iH iI iJ iK iL iM iN iO iP iQ iR iS iT iU iV iW iX iY iZ jA jB jC jD jE jF jG jH jI jJ jK jL jM jN:Value) (hb fr:Nat) (w':World),Rd1 tr r g n c (i+AA) fb (pu&&fu) (pp&&fp) (pg&&fg) bs aE B H9 nb hb fr v0 w w'->Code.wp Tryz.prog A2c Q ⟨(.pointer (some ⟨tr,0,none⟩)::d1::d2::d3::c4::c5::c6::.pointer (some ⟨fb,0,none⟩)::d8::d9::sB::.pointer (some ⟨hb,0,none⟩)::.pointer (some ⟨tr,3,none⟩)::sC::sD::sE::sF::sG::sH::sI::sJ::sK::sL::sM::sN::sO::sP::sQ::sR::sS::sT::sU::sV::sW::sX::sY::sZ::tA::tB::tC::tD::tE::tF::tH::tI::tJ::tL::tM::tO::tP::tQ::tR::tS::tT::tU::tV::tW::tX::tY::tZ::uA::uB::uC::uD::uE::uF::uG::uH::uI::uJ::uK::uL::uM::uN::uO::uP::uQ::uR::uS::uT::uU::uW::uX::uY::uZ::vA::vB::vC::vD::vE::vF::vG::vH::vI::vJ::vL::vM::vO::vP::vQ::dZ::eA::eC::eD::eH::eJ::eK::eO::eR::eS::eV::eW::eX::eY::eZ::fA::fB::fC::fD::fE::fH::fI::fJ::fK::fL::fN::fO::fP::fQ::fR::fS::fT::fU::fV::fW::fX::fY::fZ::gA::gB::gC::gD::gE::gF::gG::gH::gI::gJ::gK::gL::gM::gN::gO::gP::gQ::gR::gT::gU::gW::gX::gY::gZ::hJ::hZ::iA::iB::iC::iD::iE::iF::iG::iH::iI::iJ::iK::iL::iM::iN::iO::iP::iQ::iR::iS::iT::iU::iV::iW::iX::iY::iZ::jA::jB::jC::jD::jE::jF::jG::jH::jI::jJ::jK::jL::jM::jN::[]).toArray,[]⟩ w'):
  Code.wp Tryz.prog A4a Q ⟨(.pointer (some ⟨tr,0,none⟩)::c1::c2::c3::c4::c5::c6::.pointer (some ⟨fb,0,none⟩)::c8::c9::mU::vR::vS::jP::jQ::jR::jS::jT::jU::jO::c20::c21::jV::jW::jX::jY::jZ::kA::kB::kC::kD::kE::kF::kG::kH::kI::kJ::c37::kL::kM::kO::kP::kQ::kR::kS::kT::c46::kU::kV::kW::kX::c51::kY::c53::kZ::lA::lB::lC::lD::lE::lF::lG::lH::lI::lJ::lL::lM::lO::lP::lQ::lR::lS::lT::lU::lV::c75::lW::lX::lY::lZ::c80::mA::mB::mC::mD::c85::mE::mF::mG::mH::mI::mJ::mL::mM::mO::mP::mQ::mR::mS::mT::aA::aB::aD::aF::aG::aH::aI::aJ::aK::aL::aM::aN::aO::aP::aQ::aR::aS::aT::aU::aV::aW::aX::aY::aZ::bA::bB::bC::c127::bD::bE::bF::bG::bH::bI::bJ::bK::bL::bM::bN::bO::bP::bQ::bR::c143::bS::c145::bT::bU::bV::bW::bX::bY::bZ::cA::cB::cC::cD::cE::cF::cG::cH::cI::cJ::cL::cM::cO::cP::c167::c168::cQ::cS::c171::cT::c173::cU::c175::cV::cW::cX::cY::cZ::dA::dB::dC::dD::dE::dF::dG::dH::dI::dJ::dL::dM::dO::dP::dQ::dR::dS::dT::dU::dV::dW::dX::dY::[]).toArray,[]⟩ w:=by
 conv=>arg 2;whnf
 have HQ:=A0 hQ;have HRF:=A0 hR;have Aa:=A0 AQ;clear hQ hR AQ;have BS:g≠r:=by have:=Ag.gS;simp at this;exact this.1
 obtain⟨c0,c1,c2,sA,z1,z2,Ai⟩:=O4 ht.2 ht.1;have mp:=B2i w.drew AI _ _ hf;have AR:=A8 ht.1;have Ba:=A8 hf;have HN:=A0 Ag;have HR:=A0 h;have HT:=A0 ht;have Aj:=A0 BA;have HB:=A0 hB;have HI:=A0 hi;clear Ag h hf ht z1 z2 Ai sA BA hB hi;go_wp2_with fail
 go_region_held3 (λw'=>w'.cell? ⟨tr,0,none⟩=some (.iface 84 (.pointer (some ⟨r,0,none⟩)))/\w'.cell? ⟨tr,2,none⟩=some (.iface 146 (.pointer (some ⟨AI,0,none⟩)))) (first|go_keep|(refine And.intro ?_ ?_<;>assumption))
  (first|(go_at_call 348;refine(B7P _ _ _).mono ?_;rintro e w2 ⟨rfl,AL⟩;have AC:=A0 AL;have d0:=(AL.cell (p:=⟨tr,0,none⟩) AR).trans c0;have d2:=(AL.cell (p:=⟨tr,2,none⟩) AR).trans c2;have Al:=A0 ((AL.cell (p:=⟨0,0,none⟩) (zC HN.out.E)).trans HN.out.E);clear AL)|(go_at_call 146;refine(A2x _ r aE Al.out).mono ?_;rintro e w3 ⟨rfl,AW⟩;have Ak:=A0 AW;have e0:=(AW.cell (p:=⟨tr,0,none⟩) (zL AR AC.out.size)).trans d0;have e2:=(AW.cell (p:=⟨tr,2,none⟩) (zL AR AC.out.size)).trans d2;clear AW))
 have AB:Below w.heap.size w w3:=(((zD _ w).drew).trans AC.out).trans (Ak.out.mono (by have:=AC.out.size;simpa using this));have AD:=A0 (HN.out.below AB);have As:=A0 (HR.out.below AB);have AT:=A0 (HT.out.below AB);have Ah:w.heap.size<=w3.heap.size:=AB.size;have Am:=A0 (Fr.of_below AB w.heap.size [r,tr,fb]);clear mp d0 d2 Al AC Ak AB HN HR HT c0 c1 c2 AR Ba e0 e2;obtain⟨e0,e1,-⟩:=O4 AT.out.2 AT.out.1;have HC:=A0 (B4L w3.drew tr r g n c i AA _ _ bs Ax aE AA As.out AT.out (by have:=HI.out;omega) hp AM BE Aj.out AD.out.S BS AD.out.E AD.out.zS);have Be: (AA:Int)<=512:=by omega
 have Bg: (0:Int)<=AA:=by omega
 go_wp2_with fail
 go_region_held3 (λw'=>w'.cell? ⟨tr,0,none⟩=some (.iface 84 (.pointer (some ⟨r,0,none⟩)))/\w'.cell? ⟨tr,1,none⟩=some (.int .i64 AA)) (first|go_keep|(refine And.intro ?_ ?_<;>assumption)) (first|(go_at_call 147;refine HC.out.mono ?_;rintro e w4 ⟨rfl,BF,⟨AH,AX⟩,BC⟩;have Ab:=A0 BF;have AU:=A0 AX;have AS:=A0 ((Fr.refl w3.heap.size [r,tr] w3).drew.trans BC);obtain⟨g0,g1,-,-,y1,-⟩:=O4 AX.2 AX.1;clear BF AX BC))
 have Ar:=A0 (AD.out.step (w':=w4) AS.out (by simp));have BX:w3.heap.size<=w4.heap.size:=AS.out.size;have An:=A0 (Am.out.thn AS.out Ah (by simp));clear Am
 have BI:r≠tr:=by
  obtain⟨p,hr⟩:=Ab.out;rintro rfl;rw[AU.out.1] at hr;cases hr
 clear HC AS e0 e1 AD As AT;go_wp2_with fail
 have Ae:Fr w4.heap.size [r,tr] w4 (w4.setCell ⟨tr,1,none⟩ (.int .i64 0)):=(Fr.refl _ _ w4).setCell (p:=⟨tr,1,none⟩) (.inl (by simp)) _;have AE:=A0 (Ar.out.step Ae (by simp));have Ao:=A0 (An.out.thn Ae (by omega) (by simp))
 have Au:Hid (RD r g n c (i+AA) (w4.setCell ⟨tr,1,none⟩ (.int .i64 0))):=by
  obtain⟨p,hr⟩:=Ab.out;exact⟨p,(C0 (a:=⟨tr,1,none⟩) _ BI).trans hr⟩
 have Av:Hid (TR tr r 0 (.iface 146 (.pointer (some ⟨AI,0,none⟩))) AH .nilIface (w4.setCell ⟨tr,1,none⟩ (.int .i64 0))):=by
  have:=B6 (i:=1) (.int .i64 0) AU.out.1;rw[A1y] at this;exact⟨this,AU.out.2⟩
 have BY: (w4.setCell ⟨tr,1,none⟩ (.int .i64 0)).heap.size=w4.heap.size:=by simp[World.setCell]
 clear An Ae Ar Ab AU g0 g1 y1 BI;generalize w4.setCell ⟨tr,1,none⟩ (.int .i64 0)=w5 at*;refine(HRF.out w5 tr r g n c (i+AA) 0 _ _ bs AH Au.out Av.out HI.out AM BE Aj.out AE.out.S AE.out.gS HB.out).mono ?_;rintro e w6 ⟨hb,rfl,Af,BH,BJ,AV,BT⟩;have AG:=A0 (AE.out.step AV (by simp));have Ap:=A0 (Ao.out.thn AV (by omega) (by simp));have AY:=A0 Af;have Ac:=A0 BH;have Ad:=A0 BJ;have Bh:=AG.out.tl;have Bd:=AG.out.lfb;have Bc:=AE.out.G.size;have BZ:w5.heap.size<=w6.heap.size:=AV.size;have BV:=A8 Af;clear Af BH BJ AV AE Au Av;go_wp2_with fail
 refine(Y2 w6 tr r 0 _ .nilIface _ hb H9 nb Ad.out AY.out Aa.out h0 h1).mono ?_;rintro e w7 ⟨Ay,rfl,BD,BU,BL,AJ⟩;have AZ:=A0 (AG.out.step AJ (by simp));have BO:=A0 (Ap.out.thn AJ (by omega) (by simp));clear Ao Ap;have Aq:=A0 (AJ.cells AY.out (by simp;omega) (.inr (by decide)));have BQ:=A0 (Ac.out.fr AJ (by have:=AG.out.rl;obtain⟨p,hr⟩:=Ac.out;rintro hm;simp at hm;subst hm;rw[Ad.out.1] at hr;cases hr));have Aw:=A0 BL;have BM:=A0 BD;clear BD BL AJ AG AY Ac Ad;have jO:w7.cell? ⟨hb,19,none⟩=some (.int .i64 (fm fu fp fg)):=by rw[zA Aq.out,<-BR];rfl
 go_upto_region 17 with fail
 rename_i K1 Az;have BP:=A0 Az;clear Az;have HM:=A0 (R6 w7 fb pu pp pg fu fp fg AZ.out.C);go_wp2_with fail
 refine HM.out.mono ?_;rintro e w8 ⟨rfl,rfl⟩;go_wp2_with fail
 refine BP.out _ _ ?_;refine HQ.out _ _ _ _ _ _ _ _ _ _ _ _ _ _ _ _ _ _ _ _ _ _ _ _ _ _ _ _ _ _ _ _ _ _ _ _ _ _ _ _ _ _ _ _ _ _ _ _ _ _ _ _ _ _ _ _ _ _ _ _ _ _ _ _ _ _ _ _ _ _ _ _ _ _ _ _ _ _ _ _ _ _ _ _ _ _ _ _ _ _ _ _ _ _ _ _ _ _ _ _ _ _ _ _ _ _ _ _ _ _ _ _ _ _ _ _ _ _ _ _ _ _ _ _ _ _ _ _ _ _ _ _ _ _ _ _ _ _ _ _ _ _ _ _ _ _ _ _ _ _ _ _ _ _ _ _ _ _ _ _ _ _ _ _ _ _ _ _ _ _ _ _ _ _ _ _ _ _ _ _ _ _ _ _ _ _ _ _ _ _ _ _ _ _ _ _ _ hb Ay _ ?_;have AO:hb≠fb:=by omega
 have AP:Ay≠fb:=by omega
 have BW:r≠fb:=by have:=AZ.out.rl;omega
 refine⟨?_,NB.offC Aq.out AO _,?_,⟨NB.offC Aw.out.1 (by omega) _,Aw.out.2⟩,NB.offC BM.out AP _,by omega,by omega,AO,AP,by omega,BO.out.setCell (p:=⟨fb,0,none⟩) (.inl (by simp)) _⟩
 ·exact AZ.out.setC (pu&&fu) (pp&&fp) (pg&&fg)
 ·obtain⟨p,hr⟩:=BQ.out
  exact⟨p,NB.offC hr BW _⟩
end Go.Proofs.YtkanmkcojlefbaaGreatDoor
namespace Go.Proofs.YtkanmkcojlefbaaGreatDoor
open Go.RowKit
variable {c1 c2 c3 c4 c8 c9 mU jP jQ jR jS jT jU jO c20 c21 jV jW jX jY jZ kA kB kC kD kE kF kG kH kI kJ c37 kL kM kO kP kQ kR kS kT c46 kU kV kW kX c51 kY c53 kZ lA lB lC lD lE lF lG lH lI lJ lL lM lO lP lQ lR lS lT lU lV c75 lW lX lY lZ c80 mA mB mC mD c85 mE mF mG mH mI mJ mL mM mO mP mQ mR mS mT aA aB aD aF aG aH aI aJ aK aL aM aN aO aP aQ aR aS aT aU aV aW aX aY aZ bA bB bC c127 bD bE bF bG bH bI bJ bK bL bM bN bO bP bQ bR c143 bS c145 bT bU bV bW bX bY bZ cA cB cC cD cE cF cG cH cI cJ cL cM cO cP c167 c168 cQ cS c171 cT c173 cU c175 cV cW cX cY cZ dA dB dC dD dE dF dG dH dI dJ dL dM dO dP dQ dR dS dT dU dV dW dX dY:Value}
structure RdX (tr r g n c i fb fr mb:Nat) (pad:Int) (pp:Bool) (bs:List UInt8) (aE:Addr) (blk:List Value) (L:List (List UInt8×List UInt8)) (v0 w0 w:World):Prop where
 nbx:NB tr r g fb false pp false bs aE v0 w
 Rd:RD r g n c i w
 T:TR tr r pad (.iface 146 (.pointer (some ⟨fr,0,none⟩))) blk .nilIface w
 F:FRd fr r 0 w
 M:M9 w mb L.length (E0 (λ_=>none) L)
 le:w0.heap.size<=w.heap.size
 lfb:fb<w.heap.size
theorem rdX (tr r g n c i fb hb fr nb:Nat) (AE:Int) (pu pp:Bool) (AD:List Value) (bs:List UInt8) (aE:Addr) (H:Hd) (L:List (List UInt8×List UInt8)) (v0 w:World) (AA:NB tr r g fb pu pp false bs aE v0 w) (h:RD r g n c i w) (hf:FRd fr r nb w) (ht:TR tr r AE (.iface 146 (.pointer (some ⟨fr,0,none⟩))) AD .nilIface w) (hh:w.heap[hb]?=some (.cells H.cells.toArray 130 (0,0))) (Ak:v0.heap.size<=hb) (Al:v0.heap.size<=fr)
  (AJ:H.typ=120) (AI:nb<=1048576) (Ag:i+nb<=n) (AH:n<4611686018427387904) (Ai:n<=c) (AS:bs.length=n) (hL: (bs.drop i).take nb=D7 L) (Ah:0<nb) (AU:A4j L)
  (Q:Exit->Act->World->Prop)
  (hQ:∀ (d1 d2 d3 d8 d9 sB vT vU sC sD sE sF sG sH sI sJ sK sL sM sN sO sP sQ sR sS sT sU sV sW sX sY sZ tA tB tC tD tE tF tH tI tJ tL tM tO tP tQ tR tS tT tU tV tW tX tY tZ uA uB uC uD uE uF uG uH uI uJ uK uL uM uN uO uP uQ uR uS uT uU uW uX uY uZ vA vB vC vD vE vF vG vH vI vJ vL vM vO vP vQ dZ eA eC eD eH eJ eK eO eR eS eV eW eX eY eZ fA fB fC fD fE fH fI fJ fK fL fN fO fP fQ fR fS fT fU fV fW fX fY fZ gA gB gC gD gE gF gG gH gI gJ gK gL gM gN gO gP gQ gR gT gU gW gX gY gZ hJ hZ iA iB iC iD iE iF iG iH iI iJ iK iL iM iN iO iP iQ iR iS iT iU iV iW iX iY iZ jA jB jC jD jE jF jG jH jI jJ jK jL jM jN:Value) (mb:Nat) (w':World),RdX tr r g n c (i+nb) fb fr mb AE pp bs aE AD L v0 w w'->Q (.exit 1) ⟨(.pointer (some ⟨tr,0,none⟩)::d1::d2::d3::.map (some mb)::.string {data:=#[]}::.string {data:=#[]}::.pointer (some ⟨fb,0,none⟩)::d8::d9::sB::vT::vU::sC::sD::sE::sF::sG::sH::sI::sJ::sK::sL::sM::sN::sO::sP::sQ::sR::sS::sT::sU::sV::sW::sX::sY::sZ::tA::tB::tC::tD::tE::tF::tH::tI::tJ::tL::tM::tO::tP::tQ::tR::tS::tT::tU::tV::tW::tX::tY::tZ::uA::uB::uC::uD::uE::uF::uG::uH::uI::uJ::uK::uL::uM::uN::uO::uP::uQ::uR::uS::uT::uU::uW::uX::uY::uZ::vA::vB::vC::vD::vE::vF::vG::vH::vI::vJ::vL::vM::vO::vP::vQ::dZ::eA::eC::eD::eH::eJ::eK::eO::eR::eS::eV::eW::eX::eY::eZ::fA::fB::fC::fD::fE::fH::fI::fJ::fK::fL::fN::fO::fP::fQ::fR::fS::fT::fU::fV::fW::fX::fY::fZ::gA::gB::gC::gD::gE::gF::gG::gH::gI::gJ::gK::gL::gM::gN::gO::gP::gQ::gR::gT::gU::gW::gX::gY::gZ::hJ::hZ::iA::iB::iC::iD::iE::iF::iG::iH::iI::iJ::iK::iL::iM::iN::iO::iP::iQ::iR::iS::iT::iU::iV::iW::iX::iY::iZ::jA::jB::jC::jD::jE::jF::jG::jH::jI::jJ::jK::jL::jM::jN::[]).toArray,[]⟩ w'):
  Code.wp Tryz.prog A2c Q ⟨(.pointer (some ⟨tr,0,none⟩)::c1::c2::c3::c4::.string {data:=#[]}::.string {data:=#[]}::.pointer (some ⟨fb,0,none⟩)::c8::c9::mU::.pointer (some ⟨hb,0,none⟩)::.pointer (some ⟨tr,3,none⟩)::jP::jQ::jR::jS::jT::jU::jO::c20::c21::jV::jW::jX::jY::jZ::kA::kB::kC::kD::kE::kF::kG::kH::kI::kJ::c37::kL::kM::kO::kP::kQ::kR::kS::kT::c46::kU::kV::kW::kX::c51::kY::c53::kZ::lA::lB::lC::lD::lE::lF::lG::lH::lI::lJ::lL::lM::lO::lP::lQ::lR::lS::lT::lU::lV::c75::lW::lX::lY::lZ::c80::mA::mB::mC::mD::c85::mE::mF::mG::mH::mI::mJ::mL::mM::mO::mP::mQ::mR::mS::mT::aA::aB::aD::aF::aG::aH::aI::aJ::aK::aL::aM::aN::aO::aP::aQ::aR::aS::aT::aU::aV::aW::aX::aY::aZ::bA::bB::bC::c127::bD::bE::bF::bG::bH::bI::bJ::bK::bL::bM::bN::bO::bP::bQ::bR::c143::bS::c145::bT::bU::bV::bW::bX::bY::bZ::cA::cB::cC::cD::cE::cF::cG::cH::cI::cJ::cL::cM::cO::cP::c167::c168::cQ::cS::c171::cT::c173::cU::c175::cV::cW::cX::cY::cZ::dA::dB::dC::dD::dE::dF::dG::dH::dI::dJ::dL::dM::dO::dP::dQ::dR::dS::dT::dU::dV::dW::dX::dY::[]).toArray,[]⟩ w:=by
 conv=>arg 2;whnf
 have HQ:=A0 hQ;have HL:=A0 hL;have AP:=A0 AU;have AL:=A0 AS
 have Ad:hb≠fb:=by
  rintro rfl;have:=AA.C;rw[hh] at this;injection this with this;injection this with _ t _;exact absurd t (by decide)
 have Ae:fr≠fb:=by
  rintro rfl;have:=AA.C;rw[hf] at this;injection this with this;injection this with _ t _;exact absurd t (by decide)
 have Ap:hb≠fr:=by
  rintro rfl;rw[hf] at hh;injection hh with this;injection this with _ t _;exact absurd t (by decide)
 have Ax:=AA.tl;have Au:=AA.rl;have Ar:=AA.lfb;have Am:=AA.G.size;have Ao:=AA.gl;have Ay:=AA.zl;have Aq:=A8 AA.C;have Af:=AA.gS;have Aj:=AA.zS;simp at Af Aj
 have Av:r≠tr:=by
  obtain⟨p,hr⟩:=h;rintro rfl;rw[ht.1] at hr;cases hr
 have AR:=AA.setC (pu&&false) (pp&&true) (false&&false);have c0:w.cell? ⟨hb,0,none⟩=some (.int .u8 120):=by rw[zA hh,<-AJ];rfl
 have HM:=A0 (R6 w fb pu pp false false true false AA.C);have AQ:=A0 (h.off (fb:=fb) (by omega) (.int .i64 (fm (pu&&false) (pp&&true) (false&&false))));have AG:Hid (TR tr r AE (.iface 146 (.pointer (some ⟨fr,0,none⟩))) AD .nilIface (w.setCell ⟨fb,0,none⟩ (.int .i64 (fm (pu&&false) (pp&&true) (false&&false))))):=⟨NB.offC ht.1 (by omega) _,ht.2⟩;have AM:Hid (FRd fr r nb (w.setCell ⟨fb,0,none⟩ (.int .i64 (fm (pu&&false) (pp&&true) (false&&false))))):=NB.offC hf Ae _;have AO:=A0 (NB.offC hh Ad (.int .i64 (fm (pu&&false) (pp&&true) (false&&false))));have Aw: (w.setCell ⟨fb,0,none⟩ (.int .i64 (fm (pu&&false) (pp&&true) (false&&false)))).heap.size=w.heap.size:=by simp[World.setCell]
 have AC:=A0 AR;clear hQ hL AU AS AA h hf ht hh AR;go_wp2_with fail
 refine HM.out.mono ?_;rintro e wx ⟨rfl,rfl⟩;clear HM c0;generalize w.setCell ⟨fb,0,none⟩ (.int .i64 (fm (pu&&false) (pp&&true) (false&&false)))=w1 at*;go_wp2_with fail
 refine(B2z w1 tr r g n c i nb fr AE AD bs aE L AQ.out AM.out AG.out AI Ag AH Ai AL.out AC.out.S (by omega) (by simp;omega) (by simp;omega) AC.out.E (by simp;omega) HL.out Ah AP.out).mono ?_;rintro e w2 ⟨mb,rfl,As,AW,AV,AT,AB⟩;have AZ:=A0 (AC.out.step AB (by simp;omega));have AY:=A0 (AB.cells AO.out (by simp;omega) (.inr (by decide)));have Ac:=A0 (AG.out.fr AB (by simp;omega));have c0:w2.cell? ⟨hb,0,none⟩=some (.int .u8 120):=by rw[zA AY.out,<-AJ];rfl
 have An:=AB.size;have Ab:=A0 AW;have Aa:=A0 AV;have AX:=A0 AT;clear AC AO AG AQ AM AW AV AT AB HL AP AL AJ;go_wp2_with fail
 refine HQ.out _ _ _ _ _ _ _ _ _ _ _ _ _ _ _ _ _ _ _ _ _ _ _ _ _ _ _ _ _ _ _ _ _ _ _ _ _ _ _ _ _ _ _ _ _ _ _ _ _ _ _ _ _ _ _ _ _ _ _ _ _ _ _ _ _ _ _ _ _ _ _ _ _ _ _ _ _ _ _ _ _ _ _ _ _ _ _ _ _ _ _ _ _ _ _ _ _ _ _ _ _ _ _ _ _ _ _ _ _ _ _ _ _ _ _ _ _ _ _ _ _ _ _ _ _ _ _ _ _ _ _ _ _ _ _ _ _ _ _ _ _ _ _ _ _ _ _ _ _ _ _ _ _ _ _ _ _ _ _ _ _ _ _ _ _ _ _ _ _ _ _ _ _ _ _ _ _ _ _ _ _ _ _ _ _ _ _ _ _ _ _ _ _ _ _ _ _ _ _ mb _ ⟨?_,Aa.out,Ac.out,AX.out,Ab.out,by omega,by omega⟩;have:=AZ.out;simpa using this
end Go.Proofs.YtkanmkcojlefbaaGreatDoor
namespace Go.Proofs.YtkanmkcojlefbaaGreatDoor
open Go.RowKit
theorem W9 {id:Nat} {Q:Exit->Act->World->Prop} {a:Act} {w:World} (h:Q .normal a w):Exit.inBlock id Q (.exit id) a w:=by
 simp only[Exit.inBlock,if_true];exact h
def Y5 (tr r g n c i:Nat) (B:C1) (H:Hd) (R:KV) (nb:Int) (w:World) (e:Ending) (w':World):Prop:=
 ∃hb fr,e= .returned (.tuple #[.pointer (some ⟨hb,0,none⟩),.nilIface])/\w'.heap[hb]?=some (.cells H.cells.toArray 130 (0,0))/\J4 w' H.recs R w'.heap.size/\RD r g n c i w'/\TR tr r (E7 nb) (.iface 146 (.pointer (some ⟨fr,0,none⟩))) (Lib.byteCells B.bytes) .nilIface w'/\FRd fr r nb w'/\Fr w.heap.size [r,tr] w w'/\w.heap.size<=hb/\w.heap.size<=fr
theorem At.lt {w:World} {g o:Nat} {cs:List Value} (h:At w g o cs) (hc:0<cs.length):g<w.heap.size:=zC (h 0 cs[0] (zF hc))
theorem A6E (w:World) (tr r g n:Nat) (bs:List UInt8) (aE:Addr) (hn:0<n) (AE:bs.length=n) (AA:At w g 0 (Lib.byteCells bs)) (hE:w.cell? ⟨0,0,none⟩=some (I7 aE)) (AC:g∉[r,tr]) (AB:0∉[r,tr]) (hr:r<w.heap.size) (ht:tr<w.heap.size):
  NB tr r g w.heap.size true true true bs aE w (w.alloc (.cells #[.int .i64 14] 128)):=by
 have hb:Below w.heap.size w (w.alloc (.cells #[.int .i64 14] 128)):=(zD _ _).alloc (zB _) _;have f:=Fr.of_below hb w.heap.size [r,tr];have AD:=AA.lt (by rw[zJ];omega);exact⟨AA.frame f (zB _) AC,f.cell hE AB (zC hE),zI w _,f,zB _,AC,AB,hr,ht,AD,zC hE⟩
theorem B8m (tr r:Nat) (AJ:Int) (AB AG:Value) (B:C1) (V:RdW) (pb hb:Nat) (v0 u0:World) (hR:RdG B V) (h:Z9 tr r AJ AB AG B pb hb (A2l B V) v0 u0)
  (R:Ending->World->Prop) (hK:∀w',Z9 tr r AJ AB AG B pb hb (rdG B V) v0 w'->R (.returned (.tuple #[.pointer (some ⟨hb,0,none⟩),.pointer (some ⟨tr,3,none⟩),.nilIface])) w') {c1 c2 c3 c4 c5 c6 c7 c8 jP jQ jR jS jT jU jO c20 c21 jV jW jX jY jZ kA kB kC kD kE kF kG kH kI kJ c37 kL kM kO kP kQ kR kS kT c46 kU kV kW kX c51 kY c53 kZ lA lB lC lD lE lF lG lH lI lJ lL lM lO lP lQ lR lS lT lU lV c75 lW lX lY lZ c80 mA mB mC mD c85 mE mF mG mH mI mJ mL mM mO mP mQ mR mS mT aA aB aD aF aG aH aI aJ aK aL aM aN aO aP aQ aR aS aT aU aV aW aX aY aZ bA bB bC c127 bD bE bF bG bH bI bJ bK bL bM bN bO bP bQ bR c143 bS c145 bT bU bV bW bX bY bZ cA cB cC cD cE cF cG cH cI cJ cL cM cO cP c167 c168 cQ cS c171 cT c173 cU c175 cV cW cX cY cZ dA dB dC dD dE dF dG dH dI dJ dL dM dO dP dQ dR dS dT dU dV dW dX dY mV mW mX mY mZ nA c210 nB c212 c213 nC nD nE nF nG nH nI nJ nL nM nO nP nQ nS nT nU nV nW c232 c233 nX nY nZ oA oB oC oD oE oF oG oH oI oJ oK oL oM oN oO oQ oR oS oT oU oV oW oX oY oZ pA pB pC pD pE pF pG pH pI pJ pL pM pO pP pQ pR pS pT pU pW pX pY pZ qA qB qC qD qE qF qG qH qI qJ qL qM qO qP qQ qR qS qT qU qV qW qX qY qZ rA rB rC rD rE rF rG rH rI rJ rK rL rM rN rO rP rQ rR rS rT rU rV rW rX rY rZ:Value}:
  Code.wp Tryz.prog B3I (bodyPost Tryz.prog Tryz.f148 R) ⟨(.pointer (some ⟨tr,0,none⟩)::c1::c2::c3::c4::c5::c6::c7::c8::.int .i64 8::.pointer (some ⟨pb,0,none⟩)::.pointer (some ⟨hb,0,none⟩)::.pointer (some ⟨tr,3,none⟩)::jP::jQ::jR::jS::jT::jU::jO::c20::c21::jV::jW::jX::jY::jZ::kA::kB::kC::kD::kE::kF::kG::kH::kI::kJ::c37::kL::kM::kO::kP::kQ::kR::kS::kT::c46::kU::kV::kW::kX::c51::kY::c53::kZ::lA::lB::lC::lD::lE::lF::lG::lH::lI::lJ::lL::lM::lO::lP::lQ::lR::lS::lT::lU::lV::c75::lW::lX::lY::lZ::c80::mA::mB::mC::mD::c85::mE::mF::mG::mH::mI::mJ::mL::mM::mO::mP::mQ::mR::mS::mT::aA::aB::aD::aF::aG::aH::aI::aJ::aK::aL::aM::aN::aO::aP::aQ::aR::aS::aT::aU::aV::aW::aX::aY::aZ::bA::bB::bC::c127::bD::bE::bF::bG::bH::bI::bJ::bK::bL::bM::bN::bO::bP::bQ::bR::c143::bS::c145::bT::bU::bV::bW::bX::bY::bZ::cA::cB::cC::cD::cE::cF::cG::cH::cI::cJ::cL::cM::cO::cP::c167::c168::cQ::cS::c171::cT::c173::cU::c175::cV::cW::cX::cY::cZ::dA::dB::dC::dD::dE::dF::dG::dH::dI::dJ::dL::dM::dO::dP::dQ::dR::dS::dT::dU::dV::dW::dX::dY::mV::mW::mX::mY::mZ::nA::c210::nB::c212::c213::nC::nD::nE::nF::nG::nH::nI::nJ::nL::nM::nO::nP::nQ::nS::nT::nU::nV::nW::c232::c233::nX::nY::nZ::oA::oB::oC::oD::oE::oF::oG::oH::oI::oJ::oK::oL::oM::oN::oO::oQ::oR::oS::oT::oU::oV::oW::oX::oY::oZ::pA::pB::pC::pD::pE::pF::pG::pH::pI::pJ::pL::pM::pO::pP::pQ::pR::pS::pT::pU::pW::pX::pY::pZ::qA::qB::qC::qD::qE::qF::qG::qH::qI::qJ::qL::qM::qO::qP::qQ::qR::qS::qT::qU::qV::qW::qX::qY::qZ::rA::rB::rC::rD::rE::rF::rG::rH::rI::rJ::rK::rL::rM::rN::rO::rP::rQ::rR::rS::rT::rU::rV::rW::rX::rY::rZ::[]).toArray,[]⟩ u0:=by
 conv=>arg 2;whnf
 obtain⟨u1,AV⟩:∃u1,u1=u0:=⟨_,rfl⟩;rw[<-AV] at h⊢;clear AV u0;have HS:=A0 h;have HR:=A0 hR;have HK:=A0 hK;have vu:=A0 Z0;have va:=A0 A3T;have vb:=A0 A1Z;have vc:=A0 A7I;have vd:=A0 A7J;have ve:=A0 A7K;have vs:=A0 A0G;have vm:=A0 A0F;have vi:=A0 A1g;have vg:=A0 A1f;have vt:=A0 V8;have w6:=A0 (λw=>O8 w 8 6 (by kernel_rfl));have AY:=A0 (λw=>O8 w 8 16 (by kernel_rfl));have w8:=A0 (λw=>A3D w 8 8 (by kernel_rfl));have vn:=A0 A8Y;have vp:=A0 A6r;have vq:=A0 A6s;clear h hR hK;go_wp2_with fail
 refine(vu.out _ _).mono ?_;rintro e wx ⟨rfl,rfl⟩;go_wp2_with fail
 refine(va.out _ _ _).mono ?_;rintro e wx ⟨rfl,rfl⟩;have AE:=A0 (L4 u1 (.pointer (some ⟨pb,0,none⟩)) tr 268 32 247 _ (At.get_user HR.out.ok HS.out.at) HR.out.ok.user (by omega));have z:=HS.out.hz 7;have hc:=HS.out.hc 7 _ rfl;go_wp2_with fail
 refine AE.out.mono ?_;rintro e wx ⟨rfl,rfl⟩;go_wp2_with fail
 have AA:Hid (Z9 tr r AJ AB AG B pb hb ({A2l B V with user:=D4 B.user}:Hd) v0 (u1.setCell ⟨hb,7,none⟩ (str (D4 B.user)))):=A0 (HS.out.set 7 _ _ rfl);clear AE HS z hc;have HS:=AA;clear AA;generalize (u1.setCell ⟨hb,7,none⟩ (str (D4 B.user)))=u2 at*;refine(vb.out _ _ _).mono ?_;rintro e wx ⟨rfl,rfl⟩;have AE:=A0 (L4 u2 (.pointer (some ⟨pb,0,none⟩)) tr 300 32 215 _ (At.get_group HR.out.ok HS.out.at) HR.out.ok.group (by omega));have z:=HS.out.hz 8;have hc:=HS.out.hc 8 _ rfl;go_wp2_with fail
 refine AE.out.mono ?_;rintro e wx ⟨rfl,rfl⟩;go_wp2_with fail
 have AA:Hid (Z9 tr r AJ AB AG B pb hb ({A2l B V with user:=D4 B.user,group:=D4 B.group}:Hd) v0 (u2.setCell ⟨hb,8,none⟩ (str (D4 B.group)))):=A0 (HS.out.set 8 _ _ rfl);clear AE HS z hc;have HS:=AA;clear AA;generalize (u2.setCell ⟨hb,8,none⟩ (str (D4 B.group)))=u3 at*;refine(vc.out _ _ _).mono ?_;rintro e wx ⟨rfl,rfl⟩;have AE:=A0 (U5 u3 (.pointer (some ⟨pb,0,none⟩)) tr 332 8 183 _ _ HR.out.maj (At.get_maj HR.out.ok HS.out.at) HR.out.ok.maj (by omega) (by omega) (by omega));go_wp2_with fail
 refine AE.out.mono ?_;rintro e q ⟨rfl,AC⟩;have HQ:=A0 (HS.out.below AC);clear AC HS;have HS:=HQ;clear HQ;have z:=HS.out.hz 15;have hc:=HS.out.hc 15 _ rfl;go_wp2_with fail
 have AA:Hid (Z9 tr r AJ AB AG B pb hb ({A2l B V with user:=D4 B.user,group:=D4 B.group,maj:=V.maj}:Hd) v0 (q.setCell ⟨hb,15,none⟩ (.int .i64 V.maj))):=A0 (HS.out.set 15 _ _ rfl);clear AE HS z hc;have HS:=AA;clear AA;generalize (q.setCell ⟨hb,15,none⟩ (.int .i64 V.maj))=u4 at*;refine(vd.out _ _ _).mono ?_;rintro e wx ⟨rfl,rfl⟩;have AE:=A0 (U5 u4 (.pointer (some ⟨pb,0,none⟩)) tr 340 8 175 _ _ HR.out.mnr (At.get_mnr HR.out.ok HS.out.at) HR.out.ok.mnr (by omega) (by omega) (by omega));go_wp2_with fail
 refine AE.out.mono ?_;rintro e q ⟨rfl,AC⟩;have HQ:=A0 (HS.out.below AC);clear AC HS;have HS:=HQ;clear HQ;have z:=HS.out.hz 16;have hc:=HS.out.hc 16 _ rfl;go_wp2_with fail
 have AA:Hid (Z9 tr r AJ AB AG B pb hb ({A2l B V with user:=D4 B.user,group:=D4 B.group,maj:=V.maj,mnr:=V.mnr}:Hd) v0 (q.setCell ⟨hb,16,none⟩ (.int .i64 V.mnr))):=A0 (HS.out.set 16 _ _ rfl);clear AE HS z hc;have HS:=AA;clear AA;generalize (q.setCell ⟨hb,16,none⟩ (.int .i64 V.mnr))=u5 at*;refine(w6.out _).mono ?_;rintro e wx ⟨rfl,rfl⟩;go_wp2_with fail
 refine(AY.out _).mono ?_;rintro e wx ⟨rfl,rfl⟩;go_wp2_with fail
 refine(w8.out _).mono ?_;rintro e wx ⟨rfl,rfl⟩;have z:=HS.out.hz 19;have hc:=HS.out.hc 19 _ rfl;have AU: (u5.setCell ⟨hb,19,none⟩ (.int .i64 8)).heap.size=u5.heap.size:=by simp[World.setCell]
 have AX:=A8 HS.out.Hh;go_wp2_with fail
 have AA:Hid (Z9 tr r AJ AB AG B pb hb ({A2l B V with user:=D4 B.user,group:=D4 B.group,maj:=V.maj,mnr:=V.mnr,fmt:=8}:Hd) v0 ((u5.setCell ⟨hb,19,none⟩ (.int .i64 8)).alloc (.cells #[.nilIface] 231))):=A0 ((HS.out.set 19 (.int .i64 8) ({A2l B V with user:=D4 B.user,group:=D4 B.group,maj:=V.maj,mnr:=V.mnr,fmt:=8}:Hd) rfl).below ((zD _ _).alloc (zB _) _));have HP:Hid (((u5.setCell ⟨hb,19,none⟩ (.int .i64 8)).alloc (.cells #[.nilIface] 231)).cell? ⟨u5.heap.size,0,none⟩=some .nilIface):=A0 (by rw[<-AU,zA (zI _ _)];rfl);have AZ:u5.heap.size≠hb:=by omega
 clear HS z hc AX AU;have HS:=AA;clear AA;generalize ((u5.setCell ⟨hb,19,none⟩ (.int .i64 8)).alloc (.cells #[.nilIface] 231))=q at*;generalize u5.heap.size=p2 at*;refine(vn.out _ _).mono ?_;rintro e wx ⟨rfl,rfl⟩;go_wp2_with fail
 refine(vp.out _ _ _).mono ?_;rintro e wx ⟨rfl,rfl⟩;obtain⟨hl,AS⟩:=HR.out.at';have AH:=W7 (At.get_at HR.out.ok HS.out.at) 0 (by rw[hl];decide);rw[Nat.add_zero] at AH;rcases AS with ⟨h0,hx⟩|⟨h0,AI,AP,AQ⟩
 focus
  rw[h0] at AH;have AO:q.cell? ⟨tr,348,none⟩=some (.int .u8 0):=AH;have AA:Hid (Z9 tr r AJ AB AG B pb hb ({A2l B V with user:=D4 B.user,group:=D4 B.group,maj:=V.maj,mnr:=V.mnr,fmt:=8,ax:=V.ax}:Hd) v0 q):=A0 (by rw[hx];exact HS.out);clear AH h0 hx hl HS;go_wp2_with fail
  clear AO;obtain⟨q7,hq⟩:∃q7:World,q7=q:=⟨_,rfl⟩;rw[<-hq] at AA HP⊢;clear hq
 rotate_left
 focus
  have hk: (((((B.rest.take 12).getD 0 0).toNat:Nat):Int) !=0)=true:=by
   have: ((B.rest.take 12).getD 0 0).toNat≠0:=λe=>h0 (by rw[<-UInt8.toNat_inj];exact e);simp only[bne_iff_ne,ne_eq];omega
  generalize ((B.rest.take 12).getD 0 0).toNat=kb at*;have AM:=A0 (U5 q (.pointer (some ⟨p2,0,none⟩)) tr 348 12 167 _ _ AI (At.get_at HR.out.ok HS.out.at) hl (by omega) (by omega) (by omega));have AL:=A0 (λw=>tOf w (V.ax-62135596800) 0 (by omega) (by omega) ⟨AP,AQ⟩);have e1:V.ax-62135596800+62135596800=V.ax:=by omega
  rw[e1] at AL;clear AI AP AQ h0 hl e1;go_wp2_with fail
  refine AM.out.mono ?_;rintro e q1 ⟨rfl,AC⟩;have HQ:=A0 (HS.out.below AC);have AD:=A0 ((AC.cell (zC HP.out)).trans HP.out);clear AC HS HP AM AH hk;have HS:=HQ;have HP:=AD;clear HQ AD;go_wp2_with fail
  refine(AL.out _).mono ?_;rintro e q2 ⟨rfl,AC⟩;have HQ:=A0 (HS.out.below AC);have AD:=A0 ((AC.cell (zC HP.out)).trans HP.out);clear AC HS HP AL;have HS:=HQ;have HP:=AD;clear HQ AD;have z2:=HS.out.hz 12;have AT:=HS.out.hc 12 _ rfl;have z:=HS.out.hz 11;have hc:=HS.out.hc 11 _ rfl;go_wp2_with fail
  have AA:Hid (Z9 tr r AJ AB AG B pb hb ({A2l B V with user:=D4 B.user,group:=D4 B.group,maj:=V.maj,mnr:=V.mnr,fmt:=8,ax:=V.ax}:Hd) v0 ((q2.setCell ⟨hb,11,none⟩ (.int .u64 0)).setCell ⟨hb,12,none⟩ (.int .i64 V.ax))):=A0 ((HS.out.set 11 (.int .u64 0) ({A2l B V with user:=D4 B.user,group:=D4 B.group,maj:=V.maj,mnr:=V.mnr,fmt:=8}:Hd) rfl).set 12 (.int .i64 V.ax) _ rfl);have AR:Hid (((q2.setCell ⟨hb,11,none⟩ (.int .u64 0)).setCell ⟨hb,12,none⟩ (.int .i64 V.ax)).cell? ⟨p2,0,none⟩=some .nilIface):=A0 (((QD _ ⟨hb,12,none⟩ ⟨p2,0,none⟩ _ (λe=>by cases e)).trans (QD q2 ⟨hb,11,none⟩ ⟨p2,0,none⟩ _ (λe=>by cases e))).trans HP.out);clear z2 AT z hc HS HP;have HP:=AR;clear AR;generalize ((q2.setCell ⟨hb,11,none⟩ (.int .u64 0)).setCell ⟨hb,12,none⟩ (.int .i64 V.ax))=q7 at*
 all_goals have HS:=AA;clear AA
 all_goals
  refine(vq.out _ _ _).mono ?_;rintro e wx ⟨rfl,rfl⟩;obtain⟨hl,AS⟩:=HR.out.ct';have AH:=W7 (At.get_ct HR.out.ok HS.out.at) 0 (by rw[hl];decide);rw[Nat.add_zero] at AH;rcases AS with ⟨h0,hx⟩|⟨h0,AI,AP,AQ⟩
  ·rw[h0] at AH
   have AO:q7.cell? ⟨tr,360,none⟩=some (.int .u8 0):=AH;have AA:Hid (Z9 tr r AJ AB AG B pb hb ({A2l B V with user:=D4 B.user,group:=D4 B.group,maj:=V.maj,mnr:=V.mnr,fmt:=8,ax:=V.ax,cx:=V.cx}:Hd) v0 q7):=A0 (by rw[hx];exact HS.out);clear AH h0 hx hl HS;have hP:=AA.out.P;have AW:=HP.out;go_wp2_with fail
   go_quiet (fail)
   go_wp2_with fail
   refine bodyPost_ret (results_tmp3 rfl _ _ _) rfl ?_;exact HK.out _ (AA.out.below (bdn (zD _ _) _))
  ·have hk: ((((((B.rest.drop 12).take 12).getD 0 0).toNat:Nat):Int) !=0)=true:=by
    have: (((B.rest.drop 12).take 12).getD 0 0).toNat≠0:=λe=>h0 (by rw[<-UInt8.toNat_inj];exact e);simp only[bne_iff_ne,ne_eq];omega
   generalize (((B.rest.drop 12).take 12).getD 0 0).toNat=kb at*;have AM:=A0 (U5 q7 (.pointer (some ⟨p2,0,none⟩)) tr 360 12 155 _ _ AI (At.get_ct HR.out.ok HS.out.at) hl (by omega) (by omega) (by omega));have AL:=A0 (λw=>tOf w (V.cx-62135596800) 0 (by omega) (by omega) ⟨AP,AQ⟩);have e1:V.cx-62135596800+62135596800=V.cx:=by omega
   rw[e1] at AL;clear AI AP AQ h0 hl e1;go_wp2_with fail
   refine AM.out.mono ?_;rintro e q1 ⟨rfl,AC⟩;have HQ:=A0 (HS.out.below AC);have AD:=A0 ((AC.cell (zC HP.out)).trans HP.out);clear AC HS HP AM AH hk;have HS:=HQ;have HP:=AD;clear HQ AD;go_wp2_with fail
   refine(AL.out _).mono ?_;rintro e q2 ⟨rfl,AC⟩;have HQ:=A0 (HS.out.below AC);have AD:=A0 ((AC.cell (zC HP.out)).trans HP.out);clear AC HS HP AL;have HS:=HQ;have HP:=AD;clear HQ AD;have z2:=HS.out.hz 14;have AT:=HS.out.hc 14 _ rfl;have z:=HS.out.hz 13;have hc:=HS.out.hc 13 _ rfl;have AA:Hid (Z9 tr r AJ AB AG B pb hb ({A2l B V with user:=D4 B.user,group:=D4 B.group,maj:=V.maj,mnr:=V.mnr,fmt:=8,ax:=V.ax,cx:=V.cx}:Hd) v0 ((q2.setCell ⟨hb,13,none⟩ (.int .u64 0)).setCell ⟨hb,14,none⟩ (.int .i64 V.cx))):=A0 ((HS.out.set 13 (.int .u64 0) ({A2l B V with user:=D4 B.user,group:=D4 B.group,maj:=V.maj,mnr:=V.mnr,fmt:=8,ax:=V.ax}:Hd) rfl).set 14 (.int .i64 V.cx) _ rfl);have AR:Hid (((q2.setCell ⟨hb,13,none⟩ (.int .u64 0)).setCell ⟨hb,14,none⟩ (.int .i64 V.cx)).cell? ⟨p2,0,none⟩=some .nilIface):=A0 (((QD _ ⟨hb,14,none⟩ ⟨p2,0,none⟩ _ (λe=>by cases e)).trans (QD q2 ⟨hb,13,none⟩ ⟨p2,0,none⟩ _ (λe=>by cases e))).trans HP.out);have hP:=AA.out.P;have AW:=AR.out;clear HS HP;go_wp2_with fail
   go_quiet (fail)
   go_wp2_with fail
   refine bodyPost_ret (results_tmp3 rfl _ _ _) rfl ?_;exact HK.out _ (AA.out.below (bdn (zD _ _) _))
end Go.Proofs.YtkanmkcojlefbaaGreatDoor
