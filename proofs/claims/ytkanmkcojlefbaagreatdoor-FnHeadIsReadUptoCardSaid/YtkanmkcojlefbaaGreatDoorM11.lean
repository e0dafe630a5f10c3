/-
  Part of the proof; holds the texts RN1, RNT.
-/
import Derived.Test.YtkanmkcojlefbaaGreatDoorM10
set_option maxHeartbeats 8000000
set_option maxRecDepth 100000
set_option linter.unusedSimpArgs false
set_option linter.unusedVariables false
namespace Go.Proofs.YtkanmkcojlefbaaGreatDoor
open Go.RowKit
variable {c1 c2 c3 c4 c5 c6 c8 c9 nG qS qT nH nI nJ nL nM nO jO c20 c21 nP nQ nS nT nU nV nW nX nY nZ oA oB oC oD oE c37 oF oG oH oI oJ oK oL oM c46 oN oO oQ oR c51 oS c53 oT oU oV oW oX oY oZ pA pB pC pD pE pF pG pH pI pJ pL pM pO pP c75 pQ pR pS pT c80 pU pW pX pY c85 pZ qA qB qC qD qE qF qG qH qI qJ qL qM qO eR eS eV eW eX eY eZ fA fB fC fD fE fH fI fJ fK fL fN fO fP fQ fR fS fT fU fV fW c127 fX fY fZ gA gB gC gD gE gF gG gH gI gJ gK gL c143 gM c145 gN gO gP gQ gR gT gU gW gX gY gZ hJ hZ iA iB iC iD iE iF iG iH c167 c168 iI iJ c171 iK c173 iL c175 iM iN iO iP iQ iR iS iT iU iV iW iX iY iZ jA jB jC jD jE jF jG jH jI jJ jK jL jM jN:Value}
def RHC (B:C1) (H9:Hd):Prop:=∀ (w:World) (tr r g n c i:Nat) (AC:Int) (AA AB:Value) (bs:List UInt8) (AD:List Value),RD r g n c i w->TR tr r AC AA AD AB w->i+512<=n->n<4611686018427387904->n<=c->bs.length=n->At w g 0 (Lib.byteCells bs)->g∉[r,tr]->(bs.drop i).take 512=B.bytes->
 Calls Tryz.prog 148 #[.pointer (some ⟨tr,0,none⟩)] w (B1o tr r g n c i AC AA AB B H9 w)
theorem B5z {B:C1} {V:RdV} (hR:RdF B V):RHC B (O7 B V):=λw tr r g n c i AD AA AC bs AB h1 h2 h3 h4 h5 h6 h7 h8 h9=>A9S w tr r g n c i AD AA AC bs AB B V hR h1 h2 h3 h4 h5 h6 h7 h8 h9
structure Rd1 (tr r g n c i fb:Nat) (pu pp pg:Bool) (bs:List UInt8) (aE:Addr) (B:C1) (H9:Hd) (nb:Int) (hb fr:Nat) (v0 w0 w:World):Prop where
 nbx:NB tr r g fb pu pp pg bs aE v0 w
 H:w.heap[hb]?=some (.cells H9.cells.toArray 130 (0,0))
 R:RD r g n c (i+512) w
 T:TR tr r (E7 nb) (.iface 146 (.pointer (some ⟨fr,0,none⟩))) (Lib.byteCells B.bytes) .nilIface w
 F:FRd fr r nb w
 hb0:v0.heap.size<=hb
 fr0:v0.heap.size<=fr
 hbf:hb≠fb
 frf:fr≠fb
 lb:w0.heap.size<=hb
 fw:Fr w0.heap.size [r,tr,fb] w0 w
theorem rd1 (tr r g n c i AA fb AI:Nat) (pu pp pg:Bool) (bs:List UInt8) (aE:Addr) (B:C1) (H9:Hd) (fu fp fg:Bool) (BR:H9.fmt=fm fu fp fg) (nb:Int) (Ax:List Value) (v0 w:World) (hR:RHC B H9) (Ag:NB tr r g fb pu pp pg bs aE v0 w) (h:RD r g n c i w) (hf:FRd AI r 0 w) (ht:TR tr r AA (.iface 146 (.pointer (some ⟨AI,0,none⟩))) Ax .nilIface w)
  (hi:i+AA+512<=n) (hp:AA<512) (AM:n<4611686018427387904) (BE:n<=c) (BA:bs.length=n) (hB: (bs.drop (i+AA)).take 512=B.bytes) (AQ:nb=if D1 H9.typ then 0 else H9.size) (h0:0<=nb) (h1:nb<=9223372036854775807) (Bb:fb<w.heap.size)
  (Q:Exit->Act->World->Prop)
  (hQ:∀ (d1 d2 d3 d8 d9 jP jQ jR jS jT jU jV jW jX jY jZ kA kB kC kD kE kF kG kH kI kJ kL kM kO kP kQ kR kS kT kU kV kW kX kY kZ lB lC lD lE lF lG lH lI lJ lL lM lO lP lQ lR lS lT lU lV lW lX lY lZ mA mB mC mD mE mF mG mH mI mJ mL mM mO mP mQ mR mS mT mU mV mW mX mY mZ nA nB nC nD nE nF aA aB aC aD aF aG aH aI aJ aK aL aM aN aO aP aQ aR aS aT aU aV aW aX aY aZ bB bC bD bE bF bG bH bI bJ bK bL bM bN bO bP bQ bR bS bT bU bV bW bX bY bZ cA cB cC cD cE cF cG cH cI cJ cL cM cO cP cQ cS cT cU cV cW cX cY cZ dA dB dC dD dE dF dG dH dI dJ dL dM dO dP dQ dR dS dT dU dV dW dX dY dZ eA eC eD eH eJ eK eO:Value) (hb fr:Nat) (w':World),Rd1 tr r g n c (i+AA) fb (pu&&fu) (pp&&fp) (pg&&fg) bs aE B H9 nb hb fr v0 w w'->Code.wp Tryz.prog A2c Q ⟨(.pointer (some ⟨tr,0,none⟩)::d1::d2::d3::c4::c5::c6::.pointer (some ⟨fb,0,none⟩)::d8::d9::jP::.pointer (some ⟨hb,0,none⟩)::.pointer (some ⟨tr,3,none⟩)::jQ::jR::jS::jT::jU::jV::jW::jX::jY::jZ::kA::kB::kC::kD::kE::kF::kG::kH::kI::kJ::kL::kM::kO::kP::kQ::kR::kS::kT::kU::kV::kW::kX::kY::kZ::lB::lC::lD::lE::lF::lG::lH::lI::lJ::lL::lM::lO::lP::lQ::lR::lS::lT::lU::lV::lW::lX::lY::lZ::mA::mB::mC::mD::mE::mF::mG::mH::mI::mJ::mL::mM::mO::mP::mQ::mR::mS::mT::mU::mV::mW::mX::mY::mZ::nA::nB::nC::nD::nE::nF::aA::aB::aC::aD::aF::aG::aH::aI::aJ::aK::aL::aM::aN::aO::aP::aQ::aR::aS::aT::aU::aV::aW::aX::aY::aZ::bB::bC::bD::bE::bF::bG::bH::bI::bJ::bK::bL::bM::bN::bO::bP::bQ::bR::bS::bT::bU::bV::bW::bX::bY::bZ::cA::cB::cC::cD::cE::cF::cG::cH::cI::cJ::cL::cM::cO::cP::cQ::cS::cT::cU::cV::cW::cX::cY::cZ::dA::dB::dC::dD::dE::dF::dG::dH::dI::dJ::dL::dM::dO::dP::dQ::dR::dS::dT::dU::dV::dW::dX::dY::dZ::eA::eC::eD::eH::eJ::eK::eO::[]).toArray,[]⟩ w'):
  Code.wp Tryz.prog A4a Q ⟨(.pointer (some ⟨tr,0,none⟩)::c1::c2::c3::c4::c5::c6::.pointer (some ⟨fb,0,none⟩)::c8::c9::nG::qS::qT::nH::nI::nJ::nL::nM::nO::jO::c20::c21::nP::nQ::nS::nT::nU::nV::nW::nX::nY::nZ::oA::oB::oC::oD::oE::c37::oF::oG::oH::oI::oJ::oK::oL::oM::c46::oN::oO::oQ::oR::c51::oS::c53::oT::oU::oV::oW::oX::oY::oZ::pA::pB::pC::pD::pE::pF::pG::pH::pI::pJ::pL::pM::pO::pP::c75::pQ::pR::pS::pT::c80::pU::pW::pX::pY::c85::pZ::qA::qB::qC::qD::qE::qF::qG::qH::qI::qJ::qL::qM::qO::eR::eS::eV::eW::eX::eY::eZ::fA::fB::fC::fD::fE::fH::fI::fJ::fK::fL::fN::fO::fP::fQ::fR::fS::fT::fU::fV::fW::c127::fX::fY::fZ::gA::gB::gC::gD::gE::gF::gG::gH::gI::gJ::gK::gL::c143::gM::c145::gN::gO::gP::gQ::gR::gT::gU::gW::gX::gY::gZ::hJ::hZ::iA::iB::iC::iD::iE::iF::iG::iH::c167::c168::iI::iJ::c171::iK::c173::iL::c175::iM::iN::iO::iP::iQ::iR::iS::iT::iU::iV::iW::iX::iY::iZ::jA::jB::jC::jD::jE::jF::jG::jH::jI::jJ::jK::jL::jM::jN::[]).toArray,[]⟩ w:=by
 conv=>arg 2;whnf
 have HQ:=A0 hQ;have HRF:=A0 hR;have Aa:=A0 AQ;clear hQ hR AQ;have BS:g≠r:=by have:=Ag.gS;simp at this;exact this.1
 obtain⟨c0,c1,c2,qP,z1,z2,Ai⟩:=O4 ht.2 ht.1;have mp:=B2i w.drew AI _ _ hf;have AR:=A8 ht.1;have Ba:=A8 hf;have HN:=A0 Ag;have HR:=A0 h;have HT:=A0 ht;have Aj:=A0 BA;have HB:=A0 hB;have HI:=A0 hi;clear Ag h hf ht z1 z2 Ai qP BA hB hi;go_wp2_with fail
 go_region_held3 (λw'=>w'.cell? ⟨tr,0,none⟩=some (.iface 84 (.pointer (some ⟨r,0,none⟩)))/\w'.cell? ⟨tr,2,none⟩=some (.iface 146 (.pointer (some ⟨AI,0,none⟩)))) (first|go_keep|(refine And.intro ?_ ?_<;>assumption))
  (first|(go_at_call 348;refine(B7P _ _ _).mono ?_;rintro e w2 ⟨rfl,AL⟩;have AC:=A0 AL;have d0:=(AL.cell (p:=⟨tr,0,none⟩) AR).trans c0;have d2:=(AL.cell (p:=⟨tr,2,none⟩) AR).trans c2;have Al:=A0 ((AL.cell (p:=⟨0,0,none⟩) (block_lt_of_cell HN.out.E)).trans HN.out.E);clear AL)|(go_at_call 146;refine(A2x _ r aE Al.out).mono ?_;rintro e w3 ⟨rfl,AW⟩;have Ak:=A0 AW;have e0:=(AW.cell (p:=⟨tr,0,none⟩) (Nat.lt_of_lt_of_le AR AC.out.size)).trans d0;have e2:=(AW.cell (p:=⟨tr,2,none⟩) (Nat.lt_of_lt_of_le AR AC.out.size)).trans d2;clear AW))
 have AB:Below w.heap.size w w3:=(((Below.refl _ w).drew).trans AC.out).trans (Ak.out.mono (by have:=AC.out.size;simpa using this));have AD:=A0 (HN.out.below AB);have As:=A0 (HR.out.below AB);have AT:=A0 (HT.out.below AB);have Ah:w.heap.size<=w3.heap.size:=AB.size;have Am:=A0 (Fr.of_below AB w.heap.size [r,tr,fb]);clear mp d0 d2 Al AC Ak AB HN HR HT c0 c1 c2 AR Ba e0 e2;obtain⟨e0,e1,-⟩:=O4 AT.out.2 AT.out.1;have HC:=A0 (B4L w3.drew tr r g n c i AA _ _ bs Ax aE AA As.out AT.out (by have:=HI.out;omega) hp AM BE Aj.out AD.out.S BS AD.out.E AD.out.zS);have Be: (AA:Int)<=512:=by omega
 have Bf: (0:Int)<=AA:=by omega
 go_wp2_with fail
 go_region_held3 (λw'=>w'.cell? ⟨tr,0,none⟩=some (.iface 84 (.pointer (some ⟨r,0,none⟩)))/\w'.cell? ⟨tr,1,none⟩=some (.int .i64 AA)) (first|go_keep|(refine And.intro ?_ ?_<;>assumption)) (first|(go_at_call 147;refine HC.out.mono ?_;rintro e w4 ⟨rfl,BF,⟨AH,AX⟩,BC⟩;have Ab:=A0 BF;have AU:=A0 AX;have AS:=A0 ((Fr.refl w3.heap.size [r,tr] w3).drew.trans BC);obtain⟨g0,g1,-,-,y1,-⟩:=O4 AX.2 AX.1;clear BF AX BC))
 have Ar:=A0 (AD.out.step (w':=w4) AS.out (by simp));have BX:w3.heap.size<=w4.heap.size:=AS.out.size;have An:=A0 (Am.out.thn AS.out Ah (by simp));clear Am
 have BI:r≠tr:=by
  obtain⟨p,hr⟩:=Ab.out;rintro rfl;rw[AU.out.1] at hr;cases hr
 clear HC AS e0 e1 AD As AT;go_wp2_with fail
 have Ae:Fr w4.heap.size [r,tr] w4 (w4.setCell ⟨tr,1,none⟩ (.int .i64 0)):=(Fr.refl _ _ w4).setCell (p:=⟨tr,1,none⟩) (.inl (by simp)) _;have AE:=A0 (Ar.out.step Ae (by simp));have Ao:=A0 (An.out.thn Ae (by omega) (by simp))
 have Au:Hid (RD r g n c (i+AA) (w4.setCell ⟨tr,1,none⟩ (.int .i64 0))):=by
  obtain⟨p,hr⟩:=Ab.out;exact⟨p,(C0 (a:=⟨tr,1,none⟩) _ BI).trans hr⟩
 have Av:Hid (TR tr r 0 (.iface 146 (.pointer (some ⟨AI,0,none⟩))) AH .nilIface (w4.setCell ⟨tr,1,none⟩ (.int .i64 0))):=by
  have:=B6 (i:=1) (.int .i64 0) AU.out.1;rw[A1y] at this;exact⟨this,AU.out.2⟩
 have BY: (w4.setCell ⟨tr,1,none⟩ (.int .i64 0)).heap.size=w4.heap.size:=by simp[World.setCell]
 clear An Ae Ar Ab AU g0 g1 y1 BI;generalize w4.setCell ⟨tr,1,none⟩ (.int .i64 0)=w5 at*;refine(HRF.out w5 tr r g n c (i+AA) 0 _ _ bs AH Au.out Av.out HI.out AM BE Aj.out AE.out.S AE.out.gS HB.out).mono ?_;rintro e w6 ⟨hb,rfl,Af,BH,BJ,AV,BT⟩;have AG:=A0 (AE.out.step AV (by simp));have Ap:=A0 (Ao.out.thn AV (by omega) (by simp));have AY:=A0 Af;have Ac:=A0 BH;have Ad:=A0 BJ;have Bg:=AG.out.tl;have Bd:=AG.out.lfb;have Bc:=AE.out.G.size;have BZ:w5.heap.size<=w6.heap.size:=AV.size;have BV:=A8 Af;clear Af BH BJ AV AE Au Av;go_wp2_with fail
 refine(Y2 w6 tr r 0 _ .nilIface _ hb H9 nb Ad.out AY.out Aa.out h0 h1).mono ?_;rintro e w7 ⟨Ay,rfl,BD,BU,BL,AJ⟩;have AZ:=A0 (AG.out.step AJ (by simp));have BO:=A0 (Ap.out.thn AJ (by omega) (by simp));clear Ao Ap;have Aq:=A0 (AJ.cells AY.out (by simp;omega) (.inr (by decide)));have BQ:=A0 (Ac.out.fr AJ (by have:=AG.out.rl;obtain⟨p,hr⟩:=Ac.out;rintro hm;simp at hm;subst hm;rw[Ad.out.1] at hr;cases hr));have Aw:=A0 BL;have BM:=A0 BD;clear BD BL AJ AG AY Ac Ad;have jO:w7.cell? ⟨hb,19,none⟩=some (.int .i64 (fm fu fp fg)):=by rw[Lib.cell_of_heap Aq.out,<-BR];rfl
 go_upto_region 17 with fail
 rename_i K1 Az;have BP:=A0 Az;clear Az;have HM:=A0 (R6 w7 fb pu pp pg fu fp fg AZ.out.C);go_wp2_with fail
 refine HM.out.mono ?_;rintro e w8 ⟨rfl,rfl⟩;go_wp2_with fail
 refine BP.out _ _ ?_;refine HQ.out _ _ _ _ _ _ _ _ _ _ _ _ _ _ _ _ _ _ _ _ _ _ _ _ _ _ _ _ _ _ _ _ _ _ _ _ _ _ _ _ _ _ _ _ _ _ _ _ _ _ _ _ _ _ _ _ _ _ _ _ _ _ _ _ _ _ _ _ _ _ _ _ _ _ _ _ _ _ _ _ _ _ _ _ _ _ _ _ _ _ _ _ _ _ _ _ _ _ _ _ _ _ _ _ _ _ _ _ _ _ _ _ _ _ _ _ _ _ _ _ _ _ _ _ _ _ _ _ _ _ _ _ _ _ _ _ _ _ _ _ _ _ _ _ _ _ _ _ _ _ _ _ _ _ _ _ _ _ _ _ _ _ _ _ _ _ _ _ _ _ _ _ _ _ _ _ _ _ _ _ _ _ _ _ _ _ _ _ _ _ _ _ _ _ _ _ _ hb Ay _ ?_;have AO:hb≠fb:=by omega
 have AP:Ay≠fb:=by omega
 have BW:r≠fb:=by have:=AZ.out.rl;omega
 refine⟨?_,NB.offC Aq.out AO _,?_,⟨NB.offC Aw.out.1 (by omega) _,Aw.out.2⟩,NB.offC BM.out AP _,by omega,by omega,AO,AP,by omega,BO.out.setCell (p:=⟨fb,0,none⟩) (.inl (by simp)) _⟩
 ·exact AZ.out.setC (pu&&fu) (pp&&fp) (pg&&fg)
 ·obtain⟨p,hr⟩:=BQ.out
  exact⟨p,NB.offC hr BW _⟩
end Go.Proofs.YtkanmkcojlefbaaGreatDoor
namespace Go.Proofs.YtkanmkcojlefbaaGreatDoor
open Go.RowKit
variable {c1 c2 c3 c8 c9 nG nH nI nJ nL nM nO jO c20 c21 nP nQ nS nT nU nV nW nX nY nZ oA oB oC oD oE c37 oF oG oH oI oJ oK oL oM c46 oN oO oQ oR c51 oS c53 oT oU oV oW oX oY oZ pA pB pC pD pE pF pG pH pI pJ pL pM pO pP c75 pQ pR pS pT c80 pU pW pX pY c85 pZ qA qB qC qD qE qF qG qH qI qJ qL qM qO eR eS eV eW eX eY eZ fA fB fC fD fE fH fI fJ fK fL fN fO fP fQ fR fS fT fU fV fW c127 fX fY fZ gA gB gC gD gE gF gG gH gI gJ gK gL c143 gM c145 gN gO gP gQ gR gT gU gW gX gY gZ hJ hZ iA iB iC iD iE iF iG iH c167 c168 iI iJ c171 iK c173 iL c175 iM iN iO iP iQ iR iS iT iU iV iW iX iY iZ jA jB jC jD jE jF jG jH jI jJ jK jL jM jN:Value}
theorem J4.fr {w w':World} {v:Value} {R:KV} {B:Nat} {S:List Nat} (h:J4 w v R w.heap.size) (f:Fr B S w w') (hS:∀q∈S,∀es cl,w.heap[q]?≠some (.map es cl)):J4 w' v R w'.heap.size:=by
 rcases h with h|⟨rb,n,h1,h2,h3,h4⟩
 ·exact .inl h
 ·refine .inr ⟨rb,n,h1,Nat.lt_of_lt_of_le h2 f.size,h3.fr f (λhm=> ?_),h4⟩
  obtain⟨D,⟨es,AA,he,_⟩,_⟩:=h3;exact hS rb hm es AA he
theorem RD.off {r g n c i fb:Nat} {w:World} (h:RD r g n c i w) (AA:r≠fb) (v:Value):RD r g n c i (w.setCell ⟨fb,0,none⟩ v):=by
 obtain⟨p,hr⟩:=h;exact⟨p,NB.offC hr AA _⟩
structure RdE (tr r g n c i fb hb fr:Nat) (pu pp:Bool) (bs:List UInt8) (aE:Addr) (blk:List Value) (H:Hd) (R:KV) (nb:Int) (v0 w:World):Prop where
 nbx:NB tr r g fb pu pp false bs aE v0 w
 Hh:w.heap[hb]?=some (.cells H.cells.toArray 130 (0,0))
 Rd:RD r g n c i w
 T:TR tr r (E7 nb) (.iface 146 (.pointer (some ⟨fr,0,none⟩))) blk .nilIface w
 F:FRd fr r nb w
 M:J4 w H.recs R w.heap.size
 hb0:v0.heap.size<=hb
 fr0:v0.heap.size<=fr
theorem RdE.fin {tr r g n c i fb hb fr:Nat} {pu pp:Bool} {bs:List UInt8} {aE:Addr} {AB:List Value} {H2:Hd} {R:KV} {nb:Int} {v0 w:World} (hN:NB tr r g fb pu pp false bs aE v0 w) (hH:w.heap[hb]?=some (.cells H2.cells.toArray 130 (0,0))) (hR:RD r g n c i w) (hT:TR tr r (E7 nb) (.iface 146 (.pointer (some ⟨fr,0,none⟩))) AB .nilIface w) (hF:FRd fr r nb w) (hM:J4 w H2.recs R w.heap.size) (f:Int)
  (h1:r≠hb) (h2:tr≠hb) (h3:v0.heap.size<=hb) (h4:hb≠fb) (h5:fr≠hb) (h6:v0.heap.size<=fr) (_h7:True):RdE tr r g n c i fb hb fr pu pp bs aE AB {H2 with fmt:=f} R nb v0 (w.setCell ⟨hb,19,none⟩ (.int .i64 f)):=by
 have AA:Fr w.heap.size [hb] w (w.setCell ⟨hb,19,none⟩ (.int .i64 f)):=(Fr.refl _ _ w).setCell (p:=⟨hb,19,none⟩) (.inl (by simp)) _;have hs:=B6 (i:=19) (.int .i64 f) hH;exact⟨hN.step AA (by simp;exact .inr (.inr ⟨h3,h4⟩)),hs,hR.fr AA (by simpa using h1),hT.fr AA (by simpa using h2),AA.cells hF (by simpa using h5) (.inr (by decide)),hM.fr AA (λq hq es cl e=>by obtain rfl:=List.mem_singleton.1 hq;rw[hH] at e;cases e),h3,h6⟩
theorem B8j (tr r g n c i fb hb:Nat) (Au:Int) (AU:Value) (Ae:List Value) (bs:List UInt8) (aE:Addr) (H H2:Hd) (m4:Value) (R:KV) (nb:Int) (v0 w:World) (AA:NB tr r g fb true true false bs aE v0 w) (h:RD r g n c i w) (ht:TR tr r Au AU Ae .nilIface w) (hh:w.heap[hb]?=some (.cells H.cells.toArray 130 (0,0))) (Ao:v0.heap.size<=hb)
  (hM:Calls Tryz.prog 151 #[.pointer (some ⟨hb,0,none⟩),m4] w λe w'=>e= .returned .nilIface/\w'.heap[hb]?=some (.cells H2.cells.toArray 130 (0,0))/\Fr w.heap.size [hb] w w')
  (Ar:48<=H.typ/\H.typ<=55) (An:H2.typ=H.typ) (hr:J4 w H2.recs R w.heap.size) (k1:R A2d=none) (k2:R A2e=none) (k3:R A9D=none) (AI:nb=if D1 H2.typ then 0 else H2.size) (h0:0<=nb) (h1:nb<=9223372036854775807)
  (Q:Exit->Act->World->Prop)
  (hQ:∀ (d0 d1 d4 d5 d6 d7 d8 d9 jP qQ qR jQ jR jS jT jU jV jW jX jY jZ kA kB kC kD kE kF kG kH kI kJ kL kM kO kP kQ kR kS kT kU kV kW kX kY kZ lB lC lD lE lF lG lH lI lJ lL lM lO lP lQ lR lS lT lU lV lW lX lY lZ mA mB mC mD mE mF mG mH mI mJ mL mM mO mP mQ mR mS mT mU mV mW mX mY mZ nA nB nC nD nE nF aA aB aC aD aF aG aH aI aJ aK aL aM aN aO aP aQ aR aS aT aU aV aW aX aY aZ bB bC bD bE bF bG bH bI bJ bK bL bM bN bO bP bQ bR bS bT bU bV bW bX bY bZ cA cB cC cD cE cF cG cH cI cJ cL cM cO cP cQ cS cT cU cV cW cX cY cZ dA dB dC dD dE dF dG dH dI dJ dL dM dO dP dQ dR dS dT dU dV dW dX dY dZ eA eC eD eH eJ eK eO:Value) (fr:Nat) (w':World),RdE tr r g n c i fb hb fr true false bs aE Ae {H2 with fmt:=2} R nb v0 w'->Q .ret ⟨(d0::d1::.pointer (some ⟨hb,0,none⟩)::.nilIface::d4::d5::d6::d7::d8::d9::jP::qQ::qR::jQ::jR::jS::jT::jU::jV::jW::jX::jY::jZ::kA::kB::kC::kD::kE::kF::kG::kH::kI::kJ::kL::kM::kO::kP::kQ::kR::kS::kT::kU::kV::kW::kX::kY::kZ::lB::lC::lD::lE::lF::lG::lH::lI::lJ::lL::lM::lO::lP::lQ::lR::lS::lT::lU::lV::lW::lX::lY::lZ::mA::mB::mC::mD::mE::mF::mG::mH::mI::mJ::mL::mM::mO::mP::mQ::mR::mS::mT::mU::mV::mW::mX::mY::mZ::nA::nB::nC::nD::nE::nF::aA::aB::aC::aD::aF::aG::aH::aI::aJ::aK::aL::aM::aN::aO::aP::aQ::aR::aS::aT::aU::aV::aW::aX::aY::aZ::bB::bC::bD::bE::bF::bG::bH::bI::bJ::bK::bL::bM::bN::bO::bP::bQ::bR::bS::bT::bU::bV::bW::bX::bY::bZ::cA::cB::cC::cD::cE::cF::cG::cH::cI::cJ::cL::cM::cO::cP::cQ::cS::cT::cU::cV::cW::cX::cY::cZ::dA::dB::dC::dD::dE::dF::dG::dH::dI::dJ::dL::dM::dO::dP::dQ::dR::dS::dT::dU::dV::dW::dX::dY::dZ::eA::eC::eD::eH::eJ::eK::eO::[]).toArray,[]⟩ w'):
  Code.wp Tryz.prog A2c Q ⟨(.pointer (some ⟨tr,0,none⟩)::c1::c2::c3::m4::.string {data:=#[]}::.string {data:=#[]}::.pointer (some ⟨fb,0,none⟩)::c8::c9::nG::.pointer (some ⟨hb,0,none⟩)::.pointer (some ⟨tr,3,none⟩)::nH::nI::nJ::nL::nM::nO::jO::c20::c21::nP::nQ::nS::nT::nU::nV::nW::nX::nY::nZ::oA::oB::oC::oD::oE::c37::oF::oG::oH::oI::oJ::oK::oL::oM::c46::oN::oO::oQ::oR::c51::oS::c53::oT::oU::oV::oW::oX::oY::oZ::pA::pB::pC::pD::pE::pF::pG::pH::pI::pJ::pL::pM::pO::pP::c75::pQ::pR::pS::pT::c80::pU::pW::pX::pY::c85::pZ::qA::qB::qC::qD::qE::qF::qG::qH::qI::qJ::qL::qM::qO::eR::eS::eV::eW::eX::eY::eZ::fA::fB::fC::fD::fE::fH::fI::fJ::fK::fL::fN::fO::fP::fQ::fR::fS::fT::fU::fV::fW::c127::fX::fY::fZ::gA::gB::gC::gD::gE::gF::gG::gH::gI::gJ::gK::gL::c143::gM::c145::gN::gO::gP::gQ::gR::gT::gU::gW::gX::gY::gZ::hJ::hZ::iA::iB::iC::iD::iE::iF::iG::iH::c167::c168::iI::iJ::c171::iK::c173::iL::c175::iM::iN::iO::iP::iQ::iR::iS::iT::iU::iV::iW::iX::iY::iZ::jA::jB::jC::jD::jE::jF::jG::jH::jI::jJ::jK::jL::jM::jN::[]).toArray,[]⟩ w:=by
 conv=>arg 2;whnf
 have HQ:=A0 hQ;have HM:=A0 hM;have AR:=A0 AI;have Aw: (H.typ==120)=false:=by rw[beq_eq_false_iff_ne];omega
 have Av: (H.typ==103)=false:=by rw[beq_eq_false_iff_ne];omega
 have BQ: (H.typ==76)=false:=by rw[beq_eq_false_iff_ne];omega
 have BP: (H.typ==75)=false:=by rw[beq_eq_false_iff_ne];omega
 have q0: (H2.typ==0)=false:=by rw[beq_eq_false_iff_ne];omega
 have As:H2.typ≠83:=by omega
 have c0:w.cell? ⟨hb,0,none⟩=some (.int .u8 H.typ):=by rw[Lib.cell_of_heap hh];rfl
 have Ah:∀q∈[hb,tr,fb],∀es cl,w.heap[q]?≠some (.map es cl):=by
  intro q hq es cl e;simp at hq;rcases hq with rfl|rfl|rfl
  ·rw[hh] at e;cases e
  ·rw[ht.1] at e;cases e
  ·rw[AA.C] at e;cases e
 have AO:hb≠fb:=by
  rintro rfl;have:=AA.C;rw[hh] at this;injection this with this;injection this with _ t _;exact absurd t (by decide)
 have BO:=AA.tl;have BM:=AA.rl;have BL:=AA.lfb;have BD:=AA.G.size;have BI:=A8 hh;have BJ:=A8 AA.C
 have Aq:r≠tr:=by
  obtain⟨p,hr⟩:=h;rintro rfl;rw[ht.1] at hr;cases hr
 have HN:=A0 AA;have HR:=A0 h;have HT:=A0 ht;have HH:=A0 hh;have Ab:=A0 hr;have Ak:=A0 Ah;clear hQ hM AI AA h ht hh hr Ah Ar An;go_wp2_with fail
 refine HM.out.mono ?_;rintro e w1 ⟨rfl,AV,AD⟩;have AW:=A0 (HN.out.step AD (by simp;omega));have AT:=A0 (HT.out.fr AD (by simp;omega));have AZ:=A0 (HR.out.fr AD (by simp;omega));have AH:=A0 (Ab.out.fr AD (λq hq=>Ak.out q (by simp at hq⊢;exact .inl hq)));have AQ:=A0 AV;have Ay:=A0 AD;have d0:w1.cell? ⟨hb,0,none⟩=some (.int .u8 H2.typ):=by rw[Lib.cell_of_heap AV];rfl
 have BE:=AD.size;clear HM HN HT HR HH Ab AV AD c0;go_wp2_with fail
 refine(Y2 w1 tr r _ _ .nilIface _ hb H2 nb AT.out AQ.out AR.out h0 h1).mono ?_;rintro e w2 ⟨Af,rfl,Ag,Ap,Ai,AE⟩;have AX:=A0 (AW.out.step AE (by simp));have AL:=A0 (AE.cells AQ.out (by simp;omega) (.inr (by decide)));have Aa:=A0 (AZ.out.fr AE (by simp;exact Aq))
 have AJ:∀q∈[tr],∀es cl,w1.heap[q]?≠some (.map es cl):=by
  intro q hq es cl e;obtain rfl:=List.mem_singleton.1 hq;rw[AT.out.1] at e;cases e
 have AB:=A0 (AH.out.fr AE AJ);have Ac:=A0 Ai;have AP:=A0 Ag;have BF:=AE.size;clear AW AQ AZ AT AH Ag Ai AE AJ d0;go_wp2_with fail
 refine(U2 w2 tr hb _ H2 R _ AL.out AB.out As k1 k2 k3).mono ?_;rintro e w3 ⟨rfl,hd⟩;obtain⟨nd,rfl⟩:=hd;have AC:=bdn (Below.refl w2.heap.size w2) nd;have AM:=A0 (AX.out.below AC);have AG:=A0 ((AC.block hb (A8 AL.out)).trans AL.out);have Al:=A0 (Aa.out.below AC);have Ad:=A0 (Ac.out.below AC);have Aj:=A0 ((AC.block Af (A8 AP.out)).trans AP.out);have AS:=A0 (AB.out.fr (Fr.of_below AC w2.heap.size []) (by simp));have BH: (w2.drewN nd).heap.size=w2.heap.size:=rfl;clear AX AL Aa Ac AP AB AC;generalize w2.drewN nd=w3 at*;have e0:w3.cell? ⟨fb,0,none⟩=some (.int .i64 (fm true true false)):=by rw[Lib.cell_of_heap AM.out.C];rfl
 have jO:w3.cell? ⟨hb,19,none⟩=some (.int .i64 H2.fmt):=by rw[Lib.cell_of_heap AG.out];rfl
 have BR:w3.frozen? ⟨hb,19,none⟩=false:=Lib.frozen_of_heap AG.out 19;have HA:=A0 (A5o w3 true true false true false false);have HB:=A0 (A5o w3 true true false false true false);have HC:=A0 (R6 w3 fb true true false true false false AM.out.C);simp only[Bool.and_true,Bool.and_false,Bool.or_false,Bool.false_and,Bool.true_and,Bool.or_true,Bool.true_or] at HA HB HC;have BC:Hid (fm true false false=2):=A0 rfl;have BA:Hid (fm false true false=4):=A0 rfl;have Az:Hid (fm true true false=6):=A0 rfl;rw[show fm true true false=6 from rfl] at e0;rw[show fm true true false=6 from rfl,show fm true false false=2 from rfl] at HA;rw[show fm true true false=6 from rfl,show fm false true false=4 from rfl] at HB;rw[show fm true false false=2 from rfl] at HC;have Ax: (w3.setCell ⟨fb,0,none⟩ (.int .i64 2)).frozen? ⟨hb,19,none⟩=false:=Lib.frozen_of_heap (NB.offC AG.out AO _) 19;have Am: (w3.setCell ⟨fb,0,none⟩ (.int .i64 2)).cell? ⟨hb,19,none⟩=some (.int .i64 H2.fmt):=by rw[Lib.cell_of_heap (NB.offC AG.out AO _)];rfl
 go_wp2_with (first|(go_at_call 66;refine HA.out.mono ?_;rintro e wx ⟨rfl,rfl⟩)|(go_at_call 66;refine HB.out.mono ?_;rintro e wx ⟨rfl,rfl⟩)|(go_at_call 123;refine HC.out.mono ?_;rintro e wx ⟨rfl,rfl⟩)|fail)
 refine HQ.out _ _ _ _ _ _ _ _ _ _ _ _ _ _ _ _ _ _ _ _ _ _ _ _ _ _ _ _ _ _ _ _ _ _ _ _ _ _ _ _ _ _ _ _ _ _ _ _ _ _ _ _ _ _ _ _ _ _ _ _ _ _ _ _ _ _ _ _ _ _ _ _ _ _ _ _ _ _ _ _ _ _ _ _ _ _ _ _ _ _ _ _ _ _ _ _ _ _ _ _ _ _ _ _ _ _ _ _ _ _ _ _ _ _ _ _ _ _ _ _ _ _ _ _ _ _ _ _ _ _ _ _ _ _ _ _ _ _ _ _ _ _ _ _ _ _ _ _ _ _ _ _ _ _ _ _ _ _ _ _ _ _ _ _ _ _ _ _ _ _ _ _ _ _ _ _ _ _ _ _ _ _ _ _ _ _ _ _ _ _ _ _ _ _ _ _ _ _ _ _ _ _ Af _ ?_;have AY:=AM.out.setC true false false;rw[show fm true false false=2 from rfl] at AY;have hw: (w3.setCell ⟨fb,0,none⟩ (.int .i64 2)).heap[hb]?=some (.cells H2.cells.toArray 130 (0,0)):=NB.offC AG.out AO _;exact RdE.fin AY hw (Al.out.off (by omega) _) ⟨NB.offC Ad.out.1 (by omega) _,Ad.out.2⟩ (NB.offC Aj.out (by omega) _) (AS.out.fr ((Fr.refl w3.heap.size [fb] w3).setCell (.inl (by simp)) _) (λq hq=>by obtain rfl:=List.mem_singleton.1 hq;intro es cl e;rw[AM.out.C] at e;cases e)) 2 (by omega) (by omega) Ao AO (by omega) (by omega) trivial
theorem B8i (tr r g n c i fb hb:Nat) (Ar:Int) (AT:Value) (Ab:List Value) (bs:List UInt8) (aE:Addr) (H H2:Hd) (m4:Value) (R:KV) (nb:Int) (v0 w:World) (AA:NB tr r g fb false true false bs aE v0 w) (h:RD r g n c i w) (ht:TR tr r Ar AT Ab .nilIface w) (hh:w.heap[hb]?=some (.cells H.cells.toArray 130 (0,0))) (Al:v0.heap.size<=hb)
  (hM:Calls Tryz.prog 151 #[.pointer (some ⟨hb,0,none⟩),m4] w λe w'=>e= .returned .nilIface/\w'.heap[hb]?=some (.cells H2.cells.toArray 130 (0,0))/\Fr w.heap.size [hb] w w')
  (Ap:48<=H.typ/\H.typ<=55) (Ak:H2.typ=H.typ) (hr:J4 w H2.recs R w.heap.size) (k1:R A2d=none) (k2:R A2e=none) (k3:R A9D=none) (AH:nb=if D1 H2.typ then 0 else H2.size) (h0:0<=nb) (h1:nb<=9223372036854775807)
  (Q:Exit->Act->World->Prop)
  (hQ:∀ (d0 d1 d4 d5 d6 d7 d8 d9 jP qQ qR jQ jR jS jT jU jV jW jX jY jZ kA kB kC kD kE kF kG kH kI kJ kL kM kO kP kQ kR kS kT kU kV kW kX kY kZ lB lC lD lE lF lG lH lI lJ lL lM lO lP lQ lR lS lT lU lV lW lX lY lZ mA mB mC mD mE mF mG mH mI mJ mL mM mO mP mQ mR mS mT mU mV mW mX mY mZ nA nB nC nD nE nF aA aB aC aD aF aG aH aI aJ aK aL aM aN aO aP aQ aR aS aT aU aV aW aX aY aZ bB bC bD bE bF bG bH bI bJ bK bL bM bN bO bP bQ bR bS bT bU bV bW bX bY bZ cA cB cC cD cE cF cG cH cI cJ cL cM cO cP cQ cS cT cU cV cW cX cY cZ dA dB dC dD dE dF dG dH dI dJ dL dM dO dP dQ dR dS dT dU dV dW dX dY dZ eA eC eD eH eJ eK eO:Value) (fr:Nat) (w':World),RdE tr r g n c i fb hb fr false true bs aE Ab {H2 with fmt:=4} R nb v0 w'->Q .ret ⟨(d0::d1::.pointer (some ⟨hb,0,none⟩)::.nilIface::d4::d5::d6::d7::d8::d9::jP::qQ::qR::jQ::jR::jS::jT::jU::jV::jW::jX::jY::jZ::kA::kB::kC::kD::kE::kF::kG::kH::kI::kJ::kL::kM::kO::kP::kQ::kR::kS::kT::kU::kV::kW::kX::kY::kZ::lB::lC::lD::lE::lF::lG::lH::lI::lJ::lL::lM::lO::lP::lQ::lR::lS::lT::lU::lV::lW::lX::lY::lZ::mA::mB::mC::mD::mE::mF::mG::mH::mI::mJ::mL::mM::mO::mP::mQ::mR::mS::mT::mU::mV::mW::mX::mY::mZ::nA::nB::nC::nD::nE::nF::aA::aB::aC::aD::aF::aG::aH::aI::aJ::aK::aL::aM::aN::aO::aP::aQ::aR::aS::aT::aU::aV::aW::aX::aY::aZ::bB::bC::bD::bE::bF::bG::bH::bI::bJ::bK::bL::bM::bN::bO::bP::bQ::bR::bS::bT::bU::bV::bW::bX::bY::bZ::cA::cB::cC::cD::cE::cF::cG::cH::cI::cJ::cL::cM::cO::cP::cQ::cS::cT::cU::cV::cW::cX::cY::cZ::dA::dB::dC::dD::dE::dF::dG::dH::dI::dJ::dL::dM::dO::dP::dQ::dR::dS::dT::dU::dV::dW::dX::dY::dZ::eA::eC::eD::eH::eJ::eK::eO::[]).toArray,[]⟩ w'):
  Code.wp Tryz.prog A2c Q ⟨(.pointer (some ⟨tr,0,none⟩)::c1::c2::c3::m4::.string {data:=#[]}::.string {data:=#[]}::.pointer (some ⟨fb,0,none⟩)::c8::c9::nG::.pointer (some ⟨hb,0,none⟩)::.pointer (some ⟨tr,3,none⟩)::nH::nI::nJ::nL::nM::nO::jO::c20::c21::nP::nQ::nS::nT::nU::nV::nW::nX::nY::nZ::oA::oB::oC::oD::oE::c37::oF::oG::oH::oI::oJ::oK::oL::oM::c46::oN::oO::oQ::oR::c51::oS::c53::oT::oU::oV::oW::oX::oY::oZ::pA::pB::pC::pD::pE::pF::pG::pH::pI::pJ::pL::pM::pO::pP::c75::pQ::pR::pS::pT::c80::pU::pW::pX::pY::c85::pZ::qA::qB::qC::qD::qE::qF::qG::qH::qI::qJ::qL::qM::qO::eR::eS::eV::eW::eX::eY::eZ::fA::fB::fC::fD::fE::fH::fI::fJ::fK::fL::fN::fO::fP::fQ::fR::fS::fT::fU::fV::fW::c127::fX::fY::fZ::gA::gB::gC::gD::gE::gF::gG::gH::gI::gJ::gK::gL::c143::gM::c145::gN::gO::gP::gQ::gR::gT::gU::gW::gX::gY::gZ::hJ::hZ::iA::iB::iC::iD::iE::iF::iG::iH::c167::c168::iI::iJ::c171::iK::c173::iL::c175::iM::iN::iO::iP::iQ::iR::iS::iT::iU::iV::iW::iX::iY::iZ::jA::jB::jC::jD::jE::jF::jG::jH::jI::jJ::jK::jL::jM::jN::[]).toArray,[]⟩ w:=by
 conv=>arg 2;whnf
 have HQ:=A0 hQ;have HM:=A0 hM;have AQ:=A0 AH;have Au: (H.typ==120)=false:=by rw[beq_eq_false_iff_ne];omega
 have As: (H.typ==103)=false:=by rw[beq_eq_false_iff_ne];omega
 have BM: (H.typ==76)=false:=by rw[beq_eq_false_iff_ne];omega
 have BL: (H.typ==75)=false:=by rw[beq_eq_false_iff_ne];omega
 have q0: (H2.typ==0)=false:=by rw[beq_eq_false_iff_ne];omega
 have Aq:H2.typ≠83:=by omega
 have c0:w.cell? ⟨hb,0,none⟩=some (.int .u8 H.typ):=by rw[Lib.cell_of_heap hh];rfl
 have Ae:∀q∈[hb,tr,fb],∀es cl,w.heap[q]?≠some (.map es cl):=by
  intro q hq es cl e;simp at hq;rcases hq with rfl|rfl|rfl
  ·rw[hh] at e;cases e
  ·rw[ht.1] at e;cases e
  ·rw[AA.C] at e;cases e
 have Am:hb≠fb:=by
  rintro rfl;have:=AA.C;rw[hh] at this;injection this with this;injection this with _ t _;exact absurd t (by decide)
 have BJ:=AA.tl;have BI:=AA.rl;have BH:=AA.lfb;have Az:=AA.G.size;have BE:=A8 hh;have BF:=A8 AA.C
 have Ao:r≠tr:=by
  obtain⟨p,hr⟩:=h;rintro rfl;rw[ht.1] at hr;cases hr
 have HN:=A0 AA;have HR:=A0 h;have HT:=A0 ht;have HH:=A0 hh;have AZ:=A0 hr;have Ah:=A0 Ae;clear hQ hM AH AA h ht hh hr Ae Ap Ak;go_wp2_with fail
 refine HM.out.mono ?_;rintro e w1 ⟨rfl,AU,AD⟩;have AV:=A0 (HN.out.step AD (by simp;omega));have AS:=A0 (HT.out.fr AD (by simp;omega));have AX:=A0 (HR.out.fr AD (by simp;omega));have AG:=A0 (AZ.out.fr AD (λq hq=>Ah.out q (by simp at hq⊢;exact .inl hq)));have AM:=A0 AU;have Av:=A0 AD;have d0:w1.cell? ⟨hb,0,none⟩=some (.int .u8 H2.typ):=by rw[Lib.cell_of_heap AU];rfl
 have BA:=AD.size;clear HM HN HT HR HH AZ AU AD c0;go_wp2_with fail
 refine(Y2 w1 tr r _ _ .nilIface _ hb H2 nb AS.out AM.out AQ.out h0 h1).mono ?_;rintro e w2 ⟨Ac,rfl,Ad,An,Af,AE⟩;have AW:=A0 (AV.out.step AE (by simp));have AJ:=A0 (AE.cells AM.out (by simp;omega) (.inr (by decide)));have AY:=A0 (AX.out.fr AE (by simp;exact Ao))
 have AI:∀q∈[tr],∀es cl,w1.heap[q]?≠some (.map es cl):=by
  intro q hq es cl e;obtain rfl:=List.mem_singleton.1 hq;rw[AS.out.1] at e;cases e
 have AB:=A0 (AG.out.fr AE AI);have Aa:=A0 Af;have AL:=A0 Ad;have BC:=AE.size;clear AV AM AX AS AG Ad Af AE AI d0;go_wp2_with fail
 refine(U2 w2 tr hb _ H2 R _ AJ.out AB.out Aq k1 k2 k3).mono ?_;rintro e w3 ⟨rfl,hd⟩;obtain⟨nd,rfl⟩:=hd;have AC:=bdn (Below.refl w2.heap.size w2) nd;have AP:=A0 (AW.out.below AC);have AO:=A0 ((AC.block hb (A8 AJ.out)).trans AJ.out);have Ai:=A0 (AY.out.below AC);have Aj:=A0 (Aa.out.below AC);have Ag:=A0 ((AC.block Ac (A8 AL.out)).trans AL.out);have AR:=A0 (AB.out.fr (Fr.of_below AC w2.heap.size []) (by simp));have BD: (w2.drewN nd).heap.size=w2.heap.size:=rfl;clear AW AJ AY Aa AL AB AC;generalize w2.drewN nd=w3 at*;have e0:w3.cell? ⟨fb,0,none⟩=some (.int .i64 (fm false true false)):=by rw[Lib.cell_of_heap AP.out.C];rfl
 have jO:w3.cell? ⟨hb,19,none⟩=some (.int .i64 H2.fmt):=by rw[Lib.cell_of_heap AO.out];rfl
 have BO:w3.frozen? ⟨hb,19,none⟩=false:=Lib.frozen_of_heap AO.out 19;have HA:=A0 (A5o w3 false true false true false false);have HB:=A0 (A5o w3 false true false false true false);have HC:=A0 (R6 w3 fb false true false true false false AP.out.C);simp only[Bool.and_true,Bool.and_false,Bool.or_false,Bool.false_and,Bool.true_and,Bool.or_true,Bool.true_or] at HA HB HC;have Ay:Hid (fm true false false=2):=A0 rfl;have Ax:Hid (fm false true false=4):=A0 rfl;have Aw:Hid (fm true true false=6):=A0 rfl;rw[show fm false true false=4 from rfl] at e0;rw[show fm false true false=4 from rfl,show fm true false false=2 from rfl] at HA;rw[show fm false true false=4 from rfl] at HB;go_wp2_with (first|(go_at_call 66;refine HA.out.mono ?_;rintro e wx ⟨rfl,rfl⟩)|(go_at_call 66;refine HB.out.mono ?_;rintro e wx ⟨rfl,rfl⟩)|fail)
 refine HQ.out _ _ _ _ _ _ _ _ _ _ _ _ _ _ _ _ _ _ _ _ _ _ _ _ _ _ _ _ _ _ _ _ _ _ _ _ _ _ _ _ _ _ _ _ _ _ _ _ _ _ _ _ _ _ _ _ _ _ _ _ _ _ _ _ _ _ _ _ _ _ _ _ _ _ _ _ _ _ _ _ _ _ _ _ _ _ _ _ _ _ _ _ _ _ _ _ _ _ _ _ _ _ _ _ _ _ _ _ _ _ _ _ _ _ _ _ _ _ _ _ _ _ _ _ _ _ _ _ _ _ _ _ _ _ _ _ _ _ _ _ _ _ _ _ _ _ _ _ _ _ _ _ _ _ _ _ _ _ _ _ _ _ _ _ _ _ _ _ _ _ _ _ _ _ _ _ _ _ _ _ _ _ _ _ _ _ _ _ _ _ _ _ _ _ _ _ _ _ _ _ _ _ Ac _ ?_;exact RdE.fin AP.out AO.out Ai.out Aj.out Ag.out AR.out 4 (by omega) (by omega) Al Am (by omega) (by omega) trivial
end Go.Proofs.YtkanmkcojlefbaaGreatDoor
