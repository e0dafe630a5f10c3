/-
  Part of the proof; holds the texts RNL, RNG.
-/
import Derived.Test.YtkanmkcojlefbaaGreatDoorM28
set_option maxHeartbeats 8000000
set_option maxRecDepth 100000
set_option linter.unusedSimpArgs false
set_option linter.unusedVariables false
namespace Go.Proofs.YtkanmkcojlefbaaGreatDoor
open Go.RowKit
variable {c1 c2 c3 c4 c5 c6 c8 c9 nH nI nJ nL nM nO nP jO c20 c21 nQ nS nT nU nV nW nX nY nZ oA oB oC oD oE oF c37 oG oH oI oJ oK oL oM oN c46 oO oQ oR oS c51 oT c53 oU oV oW oX oY oZ pA pB pC pD pE pF pG pH pI pJ pL pM pO pP pQ c75 pR pS pT pU c80 pW pX pY pZ c85 qA qB qC qD qE qF qG qH qI qJ qL qM qO qP eR eS eV eW eX eY eZ fA fB fC fD fE fH fI fJ fK fL fN fO fP fQ fR fS fT fU fV fW c127 fX fY fZ gA gB gC gD gE gF gG gH gI gJ gK gL c143 gM c145 gN gO gP gQ gR gT gU gW gX gY gZ hJ hZ iA iB iC iD iE iF iG iH c167 c168 iI iJ c171 iK c173 iL c175 iM iN iO iP iQ iR iS iT iU iV iW iX iY iZ jA jB jC jD jE jF jG jH jI jJ jK jL jM jN:Value}
structure RdL (tr r g n c i fb fr:Nat) (pad:Int) (bs:List UInt8) (aE:Addr) (blk:List Value) (v0 w0 w:World):Prop where
 nbx:NB tr r g fb false false true bs aE v0 w
 Rd:RD r g n c i w
 T:TR tr r pad (.iface 146 (.pointer (some ⟨fr,0,none⟩))) blk .nilIface w
 F:FRd fr r 0 w
 le:w0.heap.size<=w.heap.size
 lfb:fb<w.heap.size
theorem At.lt' {w:World} {g o:Nat} {cs:List Value} (h:At w g o cs) (hc:0<cs.length):g<w.heap.size:=zC (h 0 cs[0] (zF hc))
theorem A2h {w:World} {B:Nat} {v:Value} {bs:List UInt8} {k:Nat} (h:w.ownsRow B 5 1 v k (Lib.byteCells bs)) (hk:0<k) (hl:bs.length=k):∃gg cap,v= .slice (some ⟨gg,0,none⟩) k cap/\k<=cap/\At w gg 0 (Lib.byteCells bs):=by
 obtain⟨h1,h2⟩:=h;rcases h2 with ⟨-,h0⟩|⟨gg,cap,cur,rfl,AB,hh,AA,hc,hs,ht⟩
 ·omega
 ·refine⟨gg,cap,rfl,AA,At.of_heap hh (λj v hj=> ?_)⟩
  rw[Nat.zero_add];rw[<-ht,Nat.mul_one,List.getElem?_take] at hj;split at hj
  ·rw[<-Array.getElem?_toList];exact hj
  ·cases hj
theorem B8g (tr r g n c i fb hb fr nb:Nat) (pad:Int) (blk:List Value) (bs ds:List UInt8) (aE:Addr) (H:Hd) (v0 w:World) (AA:NB tr r g fb false false true bs aE v0 w) (h:RD r g n c i w) (hf:FRd fr r nb w) (ht:TR tr r pad (.iface 146 (.pointer (some ⟨fr,0,none⟩))) blk .nilIface w) (hh:w.heap[hb]?=some (.cells H.cells.toArray 130 (0,0))) (Ao:v0.heap.size<=hb) (Ap:v0.heap.size<=fr)
  (AH:H.typ=76) (AP:nb<=1048576) (Aj:i+nb<=n) (AM:n<4611686018427387904) (Al:n<=c) (AL:bs.length=n) (hL: (bs.drop i).take nb=ds) (Ak:0<nb)
  (Q:Exit->Act->World->Prop)
  (hQ:∀ (d1 d2 d3 d8 d9 jP jQ jR jS jT jU jV jW jX jY jZ kA kB kC kD kE kF kG kH kI kJ kL kM kO kP kQ kR kS kT kU kV kW kX kY kZ lA lB lC lD lE lF lG lH lI lJ lL lM lO lP lQ lR lS lT lU lV lW lX lY lZ mA mB mC mD mE mF mG mH mI mJ mL mM mO mP mQ mR mS mT mU mV mW mX mY mZ nA nB nC nD nE nF nG aA aB aD aF aG aH aI aJ aK aL aM aN aO aP aQ aR aS aT aU aV aW aX aY aZ bA bB bC bD bE bF bG bH bI bJ bK bL bM bN bO bP bQ bR bS bT bU bV bW bX bY bZ cA cB cC cD cE cF cG cH cI cJ cL cM cO cP cQ cS cT cU cV cW cX cY cZ dA dB dC dD dE dF dG dH dI dJ dL dM dO dP dQ dR dS dT dU dV dW dX dY dZ eA eC eD eH eJ eK eO:Value) (w':World),RdL tr r g n c (i+nb) fb fr pad bs aE blk v0 w w'->Q (.exit 1) ⟨(.pointer (some ⟨tr,0,none⟩)::d1::d2::d3::c4::str (D4 ds)::c6::.pointer (some ⟨fb,0,none⟩)::d8::d9::jP::jQ::jR::jS::jT::jU::jV::jW::jX::jY::jZ::kA::kB::kC::kD::kE::kF::kG::kH::kI::kJ::kL::kM::kO::kP::kQ::kR::kS::kT::kU::kV::kW::kX::kY::kZ::lA::lB::lC::lD::lE::lF::lG::lH::lI::lJ::lL::lM::lO::lP::lQ::lR::lS::lT::lU::lV::lW::lX::lY::lZ::mA::mB::mC::mD::mE::mF::mG::mH::mI::mJ::mL::mM::mO::mP::mQ::mR::mS::mT::mU::mV::mW::mX::mY::mZ::nA::nB::nC::nD::nE::nF::nG::aA::aB::aD::aF::aG::aH::aI::aJ::aK::aL::aM::aN::aO::aP::aQ::aR::aS::aT::aU::aV::aW::aX::aY::aZ::bA::bB::bC::bD::bE::bF::bG::bH::bI::bJ::bK::bL::bM::bN::bO::bP::bQ::bR::bS::bT::bU::bV::bW::bX::bY::bZ::cA::cB::cC::cD::cE::cF::cG::cH::cI::cJ::cL::cM::cO::cP::cQ::cS::cT::cU::cV::cW::cX::cY::cZ::dA::dB::dC::dD::dE::dF::dG::dH::dI::dJ::dL::dM::dO::dP::dQ::dR::dS::dT::dU::dV::dW::dX::dY::dZ::eA::eC::eD::eH::eJ::eK::eO::[]).toArray,[]⟩ w'):
  Code.wp Tryz.prog A2c Q ⟨(.pointer (some ⟨tr,0,none⟩)::c1::c2::c3::c4::c5::c6::.pointer (some ⟨fb,0,none⟩)::c8::c9::nH::.pointer (some ⟨hb,0,none⟩)::.pointer (some ⟨tr,3,none⟩)::nI::nJ::nL::nM::nO::nP::jO::c20::c21::nQ::nS::nT::nU::nV::nW::nX::nY::nZ::oA::oB::oC::oD::oE::oF::c37::oG::oH::oI::oJ::oK::oL::oM::oN::c46::oO::oQ::oR::oS::c51::oT::c53::oU::oV::oW::oX::oY::oZ::pA::pB::pC::pD::pE::pF::pG::pH::pI::pJ::pL::pM::pO::pP::pQ::c75::pR::pS::pT::pU::c80::pW::pX::pY::pZ::c85::qA::qB::qC::qD::qE::qF::qG::qH::qI::qJ::qL::qM::qO::qP::eR::eS::eV::eW::eX::eY::eZ::fA::fB::fC::fD::fE::fH::fI::fJ::fK::fL::fN::fO::fP::fQ::fR::fS::fT::fU::fV::fW::c127::fX::fY::fZ::gA::gB::gC::gD::gE::gF::gG::gH::gI::gJ::gK::gL::c143::gM::c145::gN::gO::gP::gQ::gR::gT::gU::gW::gX::gY::gZ::hJ::hZ::iA::iB::iC::iD::iE::iF::iG::iH::c167::c168::iI::iJ::c171::iK::c173::iL::c175::iM::iN::iO::iP::iQ::iR::iS::iT::iU::iV::iW::iX::iY::iZ::jA::jB::jC::jD::jE::jF::jG::jH::jI::jJ::jK::jL::jM::jN::[]).toArray,[]⟩ w:=by
 conv=>arg 2;whnf
 have AY:ds.length=nb:=by rw[<-hL,zR,List.length_drop,AL];omega
 have HQ:=A0 hQ;have HL:=A0 hL;have AS:=A0 AL
 have Ag:hb≠fb:=by
  rintro rfl;have:=AA.C;rw[hh] at this;injection this with this;injection this with _ t _;exact absurd t (by decide)
 have Ah:fr≠fb:=by
  rintro rfl;have:=AA.C;rw[hf] at this;injection this with this;injection this with _ t _;exact absurd t (by decide)
 have Au:hb≠fr:=by
  rintro rfl;rw[hf] at hh;injection hh with this;injection this with _ t _;exact absurd t (by decide)
 have BA:=AA.tl;have Ax:=AA.rl;have Aw:=AA.lfb;have Aq:=AA.G.size;have As:=AA.gl;have BC:=AA.zl;have Av:=A8 AA.C;have Ai:=AA.gS;have Am:=AA.zS;simp at Ai Am
 have Ay:r≠tr:=by
  obtain⟨p,hr⟩:=h;rintro rfl;rw[ht.1] at hr;cases hr
 have AX:NB tr r g fb false false true bs aE v0 (w.setCell ⟨fb,0,none⟩ (.int .i64 (fm (false&&false) (false&&false) (true&&true)))):=AA.setC (false&&false) (false&&false) (true&&true);have c0:w.cell? ⟨hb,0,none⟩=some (.int .u8 76):=by rw[zA hh,<-AH];rfl
 have HM:=A0 (R6 w fb false false true false false true AA.C);have AW:=A0 (h.off (fb:=fb) (by omega) (.int .i64 (fm (false&&false) (false&&false) (true&&true))));have AJ:Hid (TR tr r pad (.iface 146 (.pointer (some ⟨fr,0,none⟩))) blk .nilIface (w.setCell ⟨fb,0,none⟩ (.int .i64 (fm (false&&false) (false&&false) (true&&true))))):=⟨NB.offC ht.1 (by omega) _,ht.2⟩;have AT:Hid (FRd fr r nb (w.setCell ⟨fb,0,none⟩ (.int .i64 (fm (false&&false) (false&&false) (true&&true))))):=NB.offC hf Ah _;have AV:=A0 (NB.offC hh Ag (.int .i64 (fm (false&&false) (false&&false) (true&&true))));have Az: (w.setCell ⟨fb,0,none⟩ (.int .i64 (fm (false&&false) (false&&false) (true&&true)))).heap.size=w.heap.size:=by simp[World.setCell]
 have AG:=A0 AX;clear hQ hL AL AA h hf ht hh AX;go_wp2_with fail
 refine HM.out.mono ?_;rintro e wx ⟨rfl,rfl⟩;clear HM c0;generalize w.setCell ⟨fb,0,none⟩ (.int .i64 (fm (false&&false) (false&&false) (true&&true)))=w1 at*;go_wp2_with fail
 refine(A1z w1 tr r g n c i nb fr pad blk bs aE AW.out AT.out AJ.out AP Aj AM Al AS.out AG.out.S (by omega) (by simp;omega) (by simp;omega) AG.out.E (by simp;omega)).mono ?_;rintro e w2 ⟨v,rfl,Aa,AZ,AQ,AC⟩;rw[HL.out] at AQ;obtain⟨gg,cap,rfl,AO,AD⟩:=A2h AQ Ak AY;have AR:=A0 AD;have Ac:=A0 (AG.out.step AC (by simp;omega));have AI:=A0 (AC.cells AV.out (by simp;omega) (.inr (by decide)));have Af:=A0 (AJ.out.fr AC (by simp;omega));have Ar:=AC.size;have Ae:=A0 Aa;have AU:=A0 AZ;clear AG AV AJ AW AT Aa AZ AC AS AQ AD;have AE:Below w2.heap.size w2 (w2.alloc (.cells #[.nilIface] 231)):=(zD _ _).alloc (zB _) _;have c0: (w2.alloc (.cells #[.nilIface] 231)).cell? ⟨hb,0,none⟩=some (.int .u8 76):=by rw[zA ((AE.block hb (A8 AI.out)).trans AI.out),<-AH];rfl
 have An:w2.cell? ⟨hb,0,none⟩=some (.int .u8 76):=by rw[zA AI.out,<-AH];rfl
 have Ad:=A0 (L4 (w2.alloc (.cells #[.nilIface] 231)) (.pointer (some ⟨w2.heap.size,0,none⟩)) gg 0 nb cap ds (AR.out.carry (AE.block gg (At.lt' AR.out (by rw[zJ];omega)))) AY AO);have Ab:=A0 ((AE.block fr (A8 AU.out)).trans AU.out);have AB:=A0 AE;clear AE AH;go_wp2_with fail
 refine Ad.out.mono ?_;rintro e w3 ⟨rfl,rfl⟩;go_wp2_with fail
 refine HQ.out _ _ _ _ _ _ _ _ _ _ _ _ _ _ _ _ _ _ _ _ _ _ _ _ _ _ _ _ _ _ _ _ _ _ _ _ _ _ _ _ _ _ _ _ _ _ _ _ _ _ _ _ _ _ _ _ _ _ _ _ _ _ _ _ _ _ _ _ _ _ _ _ _ _ _ _ _ _ _ _ _ _ _ _ _ _ _ _ _ _ _ _ _ _ _ _ _ _ _ _ _ _ _ _ _ _ _ _ _ _ _ _ _ _ _ _ _ _ _ _ _ _ _ _ _ _ _ _ _ _ _ _ _ _ _ _ _ _ _ _ _ _ _ _ _ _ _ _ _ _ _ _ _ _ _ _ _ _ _ _ _ _ _ _ _ _ _ _ _ _ _ _ _ _ _ _ _ _ _ _ _ _ _ _ _ _ _ _ _ _ _ _ _ _ _ _ _ _ _ _ ⟨Ac.out.below AB.out,Ae.out.below AB.out,Af.out.below AB.out,Ab.out,?_,?_⟩
 ·have:=AB.out.size;omega
 ·have:=AB.out.size;omega
theorem B8f (tr r g n c i fb hb fr nb:Nat) (pad:Int) (blk:List Value) (bs ds:List UInt8) (aE:Addr) (H:Hd) (v0 w:World) (AA:NB tr r g fb false false true bs aE v0 w) (h:RD r g n c i w) (hf:FRd fr r nb w) (ht:TR tr r pad (.iface 146 (.pointer (some ⟨fr,0,none⟩))) blk .nilIface w) (hh:w.heap[hb]?=some (.cells H.cells.toArray 130 (0,0))) (Ao:v0.heap.size<=hb) (Ap:v0.heap.size<=fr)
  (AH:H.typ=75) (AP:nb<=1048576) (Aj:i+nb<=n) (AM:n<4611686018427387904) (Al:n<=c) (AL:bs.length=n) (hL: (bs.drop i).take nb=ds) (Ak:0<nb)
  (Q:Exit->Act->World->Prop)
  (hQ:∀ (d1 d2 d3 d8 d9 jP jQ jR jS jT jU jV jW jX jY jZ kA kB kC kD kE kF kG kH kI kJ kL kM kO kP kQ kR kS kT kU kV kW kX kY kZ lA lB lC lD lE lF lG lH lI lJ lL lM lO lP lQ lR lS lT lU lV lW lX lY lZ mA mB mC mD mE mF mG mH mI mJ mL mM mO mP mQ mR mS mT mU mV mW mX mY mZ nA nB nC nD nE nF nG aA aB aD aF aG aH aI aJ aK aL aM aN aO aP aQ aR aS aT aU aV aW aX aY aZ bA bB bC bD bE bF bG bH bI bJ bK bL bM bN bO bP bQ bR bS bT bU bV bW bX bY bZ cA cB cC cD cE cF cG cH cI cJ cL cM cO cP cQ cS cT cU cV cW cX cY cZ dA dB dC dD dE dF dG dH dI dJ dL dM dO dP dQ dR dS dT dU dV dW dX dY dZ eA eC eD eH eJ eK eO:Value) (w':World),RdL tr r g n c (i+nb) fb fr pad bs aE blk v0 w w'->Q (.exit 1) ⟨(.pointer (some ⟨tr,0,none⟩)::d1::d2::d3::c4::c5::str (D4 ds)::.pointer (some ⟨fb,0,none⟩)::d8::d9::jP::jQ::jR::jS::jT::jU::jV::jW::jX::jY::jZ::kA::kB::kC::kD::kE::kF::kG::kH::kI::kJ::kL::kM::kO::kP::kQ::kR::kS::kT::kU::kV::kW::kX::kY::kZ::lA::lB::lC::lD::lE::lF::lG::lH::lI::lJ::lL::lM::lO::lP::lQ::lR::lS::lT::lU::lV::lW::lX::lY::lZ::mA::mB::mC::mD::mE::mF::mG::mH::mI::mJ::mL::mM::mO::mP::mQ::mR::mS::mT::mU::mV::mW::mX::mY::mZ::nA::nB::nC::nD::nE::nF::nG::aA::aB::aD::aF::aG::aH::aI::aJ::aK::aL::aM::aN::aO::aP::aQ::aR::aS::aT::aU::aV::aW::aX::aY::aZ::bA::bB::bC::bD::bE::bF::bG::bH::bI::bJ::bK::bL::bM::bN::bO::bP::bQ::bR::bS::bT::bU::bV::bW::bX::bY::bZ::cA::cB::cC::cD::cE::cF::cG::cH::cI::cJ::cL::cM::cO::cP::cQ::cS::cT::cU::cV::cW::cX::cY::cZ::dA::dB::dC::dD::dE::dF::dG::dH::dI::dJ::dL::dM::dO::dP::dQ::dR::dS::dT::dU::dV::dW::dX::dY::dZ::eA::eC::eD::eH::eJ::eK::eO::[]).toArray,[]⟩ w'):
  Code.wp Tryz.prog A2c Q ⟨(.pointer (some ⟨tr,0,none⟩)::c1::c2::c3::c4::c5::c6::.pointer (some ⟨fb,0,none⟩)::c8::c9::nH::.pointer (some ⟨hb,0,none⟩)::.pointer (some ⟨tr,3,none⟩)::nI::nJ::nL::nM::nO::nP::jO::c20::c21::nQ::nS::nT::nU::nV::nW::nX::nY::nZ::oA::oB::oC::oD::oE::oF::c37::oG::oH::oI::oJ::oK::oL::oM::oN::c46::oO::oQ::oR::oS::c51::oT::c53::oU::oV::oW::oX::oY::oZ::pA::pB::pC::pD::pE::pF::pG::pH::pI::pJ::pL::pM::pO::pP::pQ::c75::pR::pS::pT::pU::c80::pW::pX::pY::pZ::c85::qA::qB::qC::qD::qE::qF::qG::qH::qI::qJ::qL::qM::qO::qP::eR::eS::eV::eW::eX::eY::eZ::fA::fB::fC::fD::fE::fH::fI::fJ::fK::fL::fN::fO::fP::fQ::fR::fS::fT::fU::fV::fW::c127::fX::fY::fZ::gA::gB::gC::gD::gE::gF::gG::gH::gI::gJ::gK::gL::c143::gM::c145::gN::gO::gP::gQ::gR::gT::gU::gW::gX::gY::gZ::hJ::hZ::iA::iB::iC::iD::iE::iF::iG::iH::c167::c168::iI::iJ::c171::iK::c173::iL::c175::iM::iN::iO::iP::iQ::iR::iS::iT::iU::iV::iW::iX::iY::iZ::jA::jB::jC::jD::jE::jF::jG::jH::jI::jJ::jK::jL::jM::jN::[]).toArray,[]⟩ w:=by
 conv=>arg 2;whnf
 have AY:ds.length=nb:=by rw[<-hL,zR,List.length_drop,AL];omega
 have HQ:=A0 hQ;have HL:=A0 hL;have AS:=A0 AL
 have Ag:hb≠fb:=by
  rintro rfl;have:=AA.C;rw[hh] at this;injection this with this;injection this with _ t _;exact absurd t (by decide)
 have Ah:fr≠fb:=by
  rintro rfl;have:=AA.C;rw[hf] at this;injection this with this;injection this with _ t _;exact absurd t (by decide)
 have Au:hb≠fr:=by
  rintro rfl;rw[hf] at hh;injection hh with this;injection this with _ t _;exact absurd t (by decide)
 have BA:=AA.tl;have Ax:=AA.rl;have Aw:=AA.lfb;have Aq:=AA.G.size;have As:=AA.gl;have BC:=AA.zl;have Av:=A8 AA.C;have Ai:=AA.gS;have Am:=AA.zS;simp at Ai Am
 have Ay:r≠tr:=by
  obtain⟨p,hr⟩:=h;rintro rfl;rw[ht.1] at hr;cases hr
 have AX:NB tr r g fb false false true bs aE v0 (w.setCell ⟨fb,0,none⟩ (.int .i64 (fm (false&&false) (false&&false) (true&&true)))):=AA.setC (false&&false) (false&&false) (true&&true);have c0:w.cell? ⟨hb,0,none⟩=some (.int .u8 75):=by rw[zA hh,<-AH];rfl
 have HM:=A0 (R6 w fb false false true false false true AA.C);have AW:=A0 (h.off (fb:=fb) (by omega) (.int .i64 (fm (false&&false) (false&&false) (true&&true))));have AJ:Hid (TR tr r pad (.iface 146 (.pointer (some ⟨fr,0,none⟩))) blk .nilIface (w.setCell ⟨fb,0,none⟩ (.int .i64 (fm (false&&false) (false&&false) (true&&true))))):=⟨NB.offC ht.1 (by omega) _,ht.2⟩;have AT:Hid (FRd fr r nb (w.setCell ⟨fb,0,none⟩ (.int .i64 (fm (false&&false) (false&&false) (true&&true))))):=NB.offC hf Ah _;have AV:=A0 (NB.offC hh Ag (.int .i64 (fm (false&&false) (false&&false) (true&&true))));have Az: (w.setCell ⟨fb,0,none⟩ (.int .i64 (fm (false&&false) (false&&false) (true&&true)))).heap.size=w.heap.size:=by simp[World.setCell]
 have AG:=A0 AX;clear hQ hL AL AA h hf ht hh AX;go_wp2_with fail
 refine HM.out.mono ?_;rintro e wx ⟨rfl,rfl⟩;clear HM c0;generalize w.setCell ⟨fb,0,none⟩ (.int .i64 (fm (false&&false) (false&&false) (true&&true)))=w1 at*;go_wp2_with fail
 refine(A1z w1 tr r g n c i nb fr pad blk bs aE AW.out AT.out AJ.out AP Aj AM Al AS.out AG.out.S (by omega) (by simp;omega) (by simp;omega) AG.out.E (by simp;omega)).mono ?_;rintro e w2 ⟨v,rfl,Aa,AZ,AQ,AC⟩;rw[HL.out] at AQ;obtain⟨gg,cap,rfl,AO,AD⟩:=A2h AQ Ak AY;have AR:=A0 AD;have Ac:=A0 (AG.out.step AC (by simp;omega));have AI:=A0 (AC.cells AV.out (by simp;omega) (.inr (by decide)));have Af:=A0 (AJ.out.fr AC (by simp;omega));have Ar:=AC.size;have Ae:=A0 Aa;have AU:=A0 AZ;clear AG AV AJ AW AT Aa AZ AC AS AQ AD;have AE:Below w2.heap.size w2 (w2.alloc (.cells #[.nilIface] 231)):=(zD _ _).alloc (zB _) _;have c0: (w2.alloc (.cells #[.nilIface] 231)).cell? ⟨hb,0,none⟩=some (.int .u8 75):=by rw[zA ((AE.block hb (A8 AI.out)).trans AI.out),<-AH];rfl
 have An:w2.cell? ⟨hb,0,none⟩=some (.int .u8 75):=by rw[zA AI.out,<-AH];rfl
 have Ad:=A0 (L4 (w2.alloc (.cells #[.nilIface] 231)) (.pointer (some ⟨w2.heap.size,0,none⟩)) gg 0 nb cap ds (AR.out.carry (AE.block gg (At.lt' AR.out (by rw[zJ];omega)))) AY AO);have Ab:=A0 ((AE.block fr (A8 AU.out)).trans AU.out);have AB:=A0 AE;clear AE AH;go_wp2_with fail
 refine Ad.out.mono ?_;rintro e w3 ⟨rfl,rfl⟩;go_wp2_with fail
 refine HQ.out _ _ _ _ _ _ _ _ _ _ _ _ _ _ _ _ _ _ _ _ _ _ _ _ _ _ _ _ _ _ _ _ _ _ _ _ _ _ _ _ _ _ _ _ _ _ _ _ _ _ _ _ _ _ _ _ _ _ _ _ _ _ _ _ _ _ _ _ _ _ _ _ _ _ _ _ _ _ _ _ _ _ _ _ _ _ _ _ _ _ _ _ _ _ _ _ _ _ _ _ _ _ _ _ _ _ _ _ _ _ _ _ _ _ _ _ _ _ _ _ _ _ _ _ _ _ _ _ _ _ _ _ _ _ _ _ _ _ _ _ _ _ _ _ _ _ _ _ _ _ _ _ _ _ _ _ _ _ _ _ _ _ _ _ _ _ _ _ _ _ _ _ _ _ _ _ _ _ _ _ _ _ _ _ _ _ _ _ _ _ _ _ _ _ _ _ _ _ _ _ ⟨Ac.out.below AB.out,Ae.out.below AB.out,Af.out.below AB.out,Ab.out,?_,?_⟩
 ·have:=AB.out.size;omega
 ·have:=AB.out.size;omega
end Go.Proofs.YtkanmkcojlefbaaGreatDoor
namespace Go.Proofs.YtkanmkcojlefbaaGreatDoor
open Go.RowKit
variable {c1 c2 c3 c8 c9 nH nI nJ nL nM nO nP jO c20 c21 nQ nS nT nU nV nW nX nY nZ oA oB oC oD oE oF c37 oG oH oI oJ oK oL oM oN c46 oO oQ oR oS c51 oT c53 oU oV oW oX oY oZ pA pB pC pD pE pF pG pH pI pJ pL pM pO pP pQ c75 pR pS pT pU c80 pW pX pY pZ c85 qA qB qC qD qE qF qG qH qI qJ qL qM qO qP eR eS eV eW eX eY eZ fA fB fC fD fE fH fI fJ fK fL fN fO fP fQ fR fS fT fU fV fW c127 fX fY fZ gA gB gC gD gE gF gG gH gI gJ gK gL c143 gM c145 gN gO gP gQ gR gT gU gW gX gY gZ hJ hZ iA iB iC iD iE iF iG iH c167 c168 iI iJ c171 iK c173 iL c175 iM iN iO iP iQ iR iS iT iU iV iW iX iY iZ jA jB jC jD jE jF jG jH jI jJ jK jL jM jN:Value}
structure B6r (tr r g n c i hb fr:Nat) (blk:List Value) (H:Hd) (nb:Int) (v0 w:World):Prop where
 G:Fr v0.heap.size [r,tr] v0 w
 Hh:w.heap[hb]?=some (.cells H.cells.toArray 130 (0,0))
 Rd:RD r g n c i w
 T:TR tr r (E7 nb) (.iface 146 (.pointer (some ⟨fr,0,none⟩))) blk .nilIface w
 F:FRd fr r nb w
 hb0:v0.heap.size<=hb
 fr0:v0.heap.size<=fr
structure RdM (tr r g n c i fb hb:Nat) (pad:Int) (curr:Value) (blk:List Value) (bs:List UInt8) (aE:Addr) (H:Hd) (v0 w:World):Prop where
 nbx:NB tr r g fb false false true bs aE v0 w
 Rd:RD r g n c i w
 T:TR tr r pad curr blk .nilIface w
 Hh:w.heap[hb]?=some (.cells H.cells.toArray 130 (0,0))
 hbl:v0.heap.size<=hb
 hfb:hb≠fb
 rt:r≠tr
section
variable {tr r g n c i fb hb:Nat} {pad:Int} {curr:Value} {blk:List Value} {bs:List UInt8} {aE:Addr} {H:Hd} {v0 w w':World}
theorem RdM.step (h:RdM tr r g n c i fb hb pad curr blk bs aE H v0 w) (f:Fr w.heap.size [hb] w w') {H2:Hd} (hh:w'.heap[hb]?=some (.cells H2.cells.toArray 130 (0,0))):RdM tr r g n c i fb hb pad curr blk bs aE H2 v0 w':=by
 have AC:=h.nbx.tl;have AB:=h.nbx.rl;have AA:=h.hbl;exact⟨h.nbx.step f (by simp;exact .inr (.inr ⟨h.hbl,h.hfb⟩)),h.Rd.fr f (by simp;omega),h.T.fr f (by simp;omega),hh,h.hbl,h.hfb,h.rt⟩
theorem RdM.set (h:RdM tr r g n c i fb hb pad curr blk bs aE H v0 w) (k:Nat) (v:Value) (H2:Hd) (he:H.cells.set k v=H2.cells) (_:H2.recs=H.recs):RdM tr r g n c i fb hb pad curr blk bs aE H2 v0 (w.setCell ⟨hb,k,none⟩ v):=by
 refine h.step ((Fr.refl _ _ w).setCell (p:=⟨hb,k,none⟩) (.inl (by simp)) v) ?_;have:=B6 (i:=k) v h.Hh;rw[this,List.setIfInBounds_toArray,he]
theorem RdM.cell (h:RdM tr r g n c i fb hb pad curr blk bs aE H v0 w) (k:Nat) (v:Value) (hv:H.cells[k]?=some v):w.cell? ⟨hb,k,none⟩=some v:=by
 rw[zA h.Hh,List.getElem?_toArray,hv]
end
theorem B8h (tr r g n c i fb hb:Nat) (pad:Int) (curr:Value) (blk:List Value) (bs:List UInt8) (aE:Addr) (H H3:Hd) (nm lk:List UInt8) (nb:Int) (v0 w:World) (Aj:NB tr r g fb false false true bs aE v0 w) (h:RD r g n c i w) (ht:TR tr r pad curr blk .nilIface w) (hh:w.heap[hb]?=some (.cells H.cells.toArray 130 (0,0))) (AS:v0.heap.size<=hb)
  (hM:Calls Tryz.prog 151 #[.pointer (some ⟨hb,0,none⟩),.map none] w λe w'=>e= .returned .nilIface/\w'.heap[hb]?=some (.cells H.cells.toArray 130 (0,0))/\Fr w.heap.size [hb] w w')
  (Aw:48<=H.typ/\H.typ<=55) (Ak:H.recs= .map none) (AX:H3= {H with name:=if nm=[] then H.name else nm,link:=if lk=[] then H.link else lk}) (AZ:nb=if D1 H.typ then 0 else H.size) (h0:0<=nb) (h1:nb<=9223372036854775807)
  (Q:Exit->Act->World->Prop)
  (hQ:∀ (d0 d1 d4 d5 d6 d7 d8 d9 jP jQ jR jS jT jU jV jW jX jY jZ kA kB kC kD kE kF kG kH kI kJ kL kM kO kP kQ kR kS kT kU kV kW kX kY kZ lA lB lC lD lE lF lG lH lI lJ lL lM lO lP lQ lR lS lT lU lV lW lX lY lZ mA mB mC mD mE mF mG mH mI mJ mL mM mO mP mQ mR mS mT mU mV mW mX mY mZ nA nB nC nD nE nF nG aA aB aD aF aG aH aI aJ aK aL aM aN aO aP aQ aR aS aT aU aV aW aX aY aZ bA bB bC bD bE bF bG bH bI bJ bK bL bM bN bO bP bQ bR bS bT bU bV bW bX bY bZ cA cB cC cD cE cF cG cH cI cJ cL cM cO cP cQ cS cT cU cV cW cX cY cZ dA dB dC dD dE dF dG dH dI dJ dL dM dO dP dQ dR dS dT dU dV dW dX dY dZ eA eC eD eH eJ eK eO:Value) (fr:Nat) (w':World),B6r tr r g n c i hb fr blk {H3 with fmt:=8} nb v0 w'->Q .ret ⟨(d0::d1::.pointer (some ⟨hb,0,none⟩)::.nilIface::d4::d5::d6::d7::d8::d9::jP::jQ::jR::jS::jT::jU::jV::jW::jX::jY::jZ::kA::kB::kC::kD::kE::kF::kG::kH::kI::kJ::kL::kM::kO::kP::kQ::kR::kS::kT::kU::kV::kW::kX::kY::kZ::lA::lB::lC::lD::lE::lF::lG::lH::lI::lJ::lL::lM::lO::lP::lQ::lR::lS::lT::lU::lV::lW::lX::lY::lZ::mA::mB::mC::mD::mE::mF::mG::mH::mI::mJ::mL::mM::mO::mP::mQ::mR::mS::mT::mU::mV::mW::mX::mY::mZ::nA::nB::nC::nD::nE::nF::nG::aA::aB::aD::aF::aG::aH::aI::aJ::aK::aL::aM::aN::aO::aP::aQ::aR::aS::aT::aU::aV::aW::aX::aY::aZ::bA::bB::bC::bD::bE::bF::bG::bH::bI::bJ::bK::bL::bM::bN::bO::bP::bQ::bR::bS::bT::bU::bV::bW::bX::bY::bZ::cA::cB::cC::cD::cE::cF::cG::cH::cI::cJ::cL::cM::cO::cP::cQ::cS::cT::cU::cV::cW::cX::cY::cZ::dA::dB::dC::dD::dE::dF::dG::dH::dI::dJ::dL::dM::dO::dP::dQ::dR::dS::dT::dU::dV::dW::dX::dY::dZ::eA::eC::eD::eH::eJ::eK::eO::[]).toArray,[]⟩ w'):
  Code.wp Tryz.prog A2c Q ⟨(.pointer (some ⟨tr,0,none⟩)::c1::c2::c3::.map none::str nm::str lk::.pointer (some ⟨fb,0,none⟩)::c8::c9::nH::.pointer (some ⟨hb,0,none⟩)::.pointer (some ⟨tr,3,none⟩)::nI::nJ::nL::nM::nO::nP::jO::c20::c21::nQ::nS::nT::nU::nV::nW::nX::nY::nZ::oA::oB::oC::oD::oE::oF::c37::oG::oH::oI::oJ::oK::oL::oM::oN::c46::oO::oQ::oR::oS::c51::oT::c53::oU::oV::oW::oX::oY::oZ::pA::pB::pC::pD::pE::pF::pG::pH::pI::pJ::pL::pM::pO::pP::pQ::c75::pR::pS::pT::pU::c80::pW::pX::pY::pZ::c85::qA::qB::qC::qD::qE::qF::qG::qH::qI::qJ::qL::qM::qO::qP::eR::eS::eV::eW::eX::eY::eZ::fA::fB::fC::fD::fE::fH::fI::fJ::fK::fL::fN::fO::fP::fQ::fR::fS::fT::fU::fV::fW::c127::fX::fY::fZ::gA::gB::gC::gD::gE::gF::gG::gH::gI::gJ::gK::gL::c143::gM::c145::gN::gO::gP::gQ::gR::gT::gU::gW::gX::gY::gZ::hJ::hZ::iA::iB::iC::iD::iE::iF::iG::iH::c167::c168::iI::iJ::c171::iK::c173::iL::c175::iM::iN::iO::iP::iQ::iR::iS::iT::iU::iV::iW::iX::iY::iZ::jA::jB::jC::jD::jE::jF::jG::jH::jI::jJ::jK::jL::jM::jN::[]).toArray,[]⟩ w:=by
 conv=>arg 2;whnf
 have Ab:H3.recs= .map none:=by rw[AX];exact Ak
 have Ap:H3.typ=H.typ:=by rw[AX]
 have Ao:H3.size=H.size:=by rw[AX]
 rw[<-Ap,<-Ao] at AZ;have HQ:=A0 hQ;have HM:=A0 hM;have AR:=A0 AZ;have Ay: (H.typ==120)=false:=by rw[zG];omega
 have Ax: (H.typ==103)=false:=by rw[zG];omega
 have BA: (H.typ==76)=false:=by rw[zG];omega
 have Az: (H.typ==75)=false:=by rw[zG];omega
 have q0: (H.typ==0)=false:=by rw[zG];omega
 have Ac:H3.typ≠83:=by omega
 have c0:w.cell? ⟨hb,0,none⟩=some (.int .u8 H.typ):=by rw[zA hh];rfl
 have Aa:hb≠fb:=by
  rintro rfl;have:=Aj.C;rw[hh] at this;injection this with this;injection this with _ t _;exact absurd t (by decide)
 have AT:r≠tr:=by
  obtain⟨p,hr⟩:=h;rintro rfl;rw[ht.1] at hr;cases hr
 have Aq:Hid (RdM tr r g n c i fb hb pad curr blk bs aE H v0 w):=A0 ⟨Aj,h,ht,hh,AS,Aa,AT⟩;clear hQ hM AZ Aj h ht hh Aw Ap Ao;go_wp2_with fail
 refine HM.out.mono ?_;rintro e w1 ⟨rfl,As,Ar⟩;have HS:=A0 (Aq.out.step Ar As);clear HM Aq As Ar c0;have d0:=HS.out.cell 0 _ rfl;have d1:=HS.out.cell 1 _ rfl;have d2:=HS.out.cell 2 _ rfl;have z1:w1.frozen? ⟨hb,1,none⟩=false:=zE HS.out.Hh 1;have z2:w1.frozen? ⟨hb,2,none⟩=false:=zE HS.out.Hh 2;by_cases hn:nm=[]<;>by_cases hl:lk=[]
 ·skip
  have HE:Hid (H3=H):=A0 (by rw[AX];simp only[if_pos hn,if_pos hl]);have AA:=A0 HS.out;rw[<-HE.out] at AA;subst hn;subst hl;clear HE HS;go_wp2_with fail
  refine(Y2 _ tr r _ _ .nilIface _ hb H3 nb AA.out.T AA.out.Hh AR.out h0 h1).mono ?_;rintro e w3 ⟨AO,rfl,AP,AY,AQ,AC⟩;have AT:=AA.out.rt;have Am:=AA.out.nbx.tl;have Al:=AA.out.nbx.rl;have Ai:=AA.out.nbx.lfb;have Ad:=AA.out.nbx.G.size;have Ae:=AC.size;have Ag:=A8 AA.out.Hh;have Ah:=A8 AA.out.nbx.C;have AI:=A0 (AA.out.nbx.step AC (by simp));have AD:=A0 (AC.cells AA.out.Hh (by simp;omega) (.inr (by decide)));have AL:=A0 (AA.out.Rd.fr AC (by simp;exact AT));have AM:=A0 AQ;have AG:=A0 AP;clear AP AQ AC AA d0 d1 d2 z1 z2;go_wp2_with fail
  refine(U2 w3 tr hb _ H3 (λ_=>none) _ AD.out (show J4 w3 H3.recs (λ_=>none) w3.heap.size from .inl ⟨Ab,λ_=>rfl⟩) Ac rfl rfl rfl).mono ?_;rintro e w4 ⟨rfl,hd⟩;obtain⟨nd,rfl⟩:=hd;have AB:=bdn (zD w3.heap.size w3) nd;have AJ:=A0 (AI.out.below AB);have AH:=A0 ((AB.block hb (A8 AD.out)).trans AD.out);have AV:=A0 (AL.out.below AB);have AW:=A0 (AM.out.below AB);have AU:=A0 ((AB.block AO (A8 AG.out)).trans AG.out);have Af: (w3.drewN nd).heap.size=w3.heap.size:=rfl;clear AI AD AL AM AG AB;generalize w3.drewN nd=w5 at*;have e0:w5.cell? ⟨fb,0,none⟩=some (.int .i64 8):=by rw[zA AJ.out.C];rfl
  have jO:w5.cell? ⟨hb,19,none⟩=some (.int .i64 H3.fmt):=by rw[zA AH.out];rfl
  have An:w5.frozen? ⟨hb,19,none⟩=false:=zE AH.out 19;have HA:=A0 (O8 w5 8 2 (by kernel_rfl));go_wp2_with (first|(go_at_call 66;refine HA.out.mono ?_;rintro e wx ⟨rfl,rfl⟩)|fail)
  refine HQ.out _ _ _ _ _ _ _ _ _ _ _ _ _ _ _ _ _ _ _ _ _ _ _ _ _ _ _ _ _ _ _ _ _ _ _ _ _ _ _ _ _ _ _ _ _ _ _ _ _ _ _ _ _ _ _ _ _ _ _ _ _ _ _ _ _ _ _ _ _ _ _ _ _ _ _ _ _ _ _ _ _ _ _ _ _ _ _ _ _ _ _ _ _ _ _ _ _ _ _ _ _ _ _ _ _ _ _ _ _ _ _ _ _ _ _ _ _ _ _ _ _ _ _ _ _ _ _ _ _ _ _ _ _ _ _ _ _ _ _ _ _ _ _ _ _ _ _ _ _ _ _ _ _ _ _ _ _ _ _ _ _ _ _ _ _ _ _ _ _ _ _ _ _ _ _ _ _ _ _ _ _ _ _ _ _ _ _ _ _ _ _ _ _ _ _ _ _ _ _ _ _ _ AO _ ?_;have AE:Fr w5.heap.size [hb] w5 (w5.setCell ⟨hb,19,none⟩ (.int .i64 8)):=(Fr.refl _ _ w5).setCell (p:=⟨hb,19,none⟩) (.inl (by simp)) _;exact⟨(AJ.out.step AE (by simp;exact .inr (.inr ⟨AS,Aa⟩))).G,B6 (i:=19) (.int .i64 8) AH.out,AV.out.fr AE (by simp;omega),AW.out.fr AE (by simp;omega),AE.cells AU.out (by simp;omega) (.inr (by decide)),AS,by omega⟩
 ·skip
  have HE:Hid (H3= {H with link:=lk}):=A0 (by rw[AX];simp only[if_pos hn,if_neg hl]);have AA:=A0 (HS.out.set 2 (str lk) {H with link:=lk} rfl rfl);rw[<-HE.out] at AA;subst hn;have Au:lk.isEmpty=false:=by cases lk with|nil=>exact absurd rfl hl|cons _ _=>rfl
  clear HE HS;go_wp2_with fail
  refine(Y2 _ tr r _ _ .nilIface _ hb H3 nb AA.out.T AA.out.Hh AR.out h0 h1).mono ?_;rintro e w3 ⟨AO,rfl,AP,AY,AQ,AC⟩;have AT:=AA.out.rt;have Am:=AA.out.nbx.tl;have Al:=AA.out.nbx.rl;have Ai:=AA.out.nbx.lfb;have Ad:=AA.out.nbx.G.size;have Ae:=AC.size;have Ag:=A8 AA.out.Hh;have Ah:=A8 AA.out.nbx.C;have AI:=A0 (AA.out.nbx.step AC (by simp));have AD:=A0 (AC.cells AA.out.Hh (by simp;omega) (.inr (by decide)));have AL:=A0 (AA.out.Rd.fr AC (by simp;exact AT));have AM:=A0 AQ;have AG:=A0 AP;clear AP AQ AC AA d0 d1 d2 z1 z2;go_wp2_with fail
  refine(U2 w3 tr hb _ H3 (λ_=>none) _ AD.out (show J4 w3 H3.recs (λ_=>none) w3.heap.size from .inl ⟨Ab,λ_=>rfl⟩) Ac rfl rfl rfl).mono ?_;rintro e w4 ⟨rfl,hd⟩;obtain⟨nd,rfl⟩:=hd;have AB:=bdn (zD w3.heap.size w3) nd;have AJ:=A0 (AI.out.below AB);have AH:=A0 ((AB.block hb (A8 AD.out)).trans AD.out);have AV:=A0 (AL.out.below AB);have AW:=A0 (AM.out.below AB);have AU:=A0 ((AB.block AO (A8 AG.out)).trans AG.out);have Af: (w3.drewN nd).heap.size=w3.heap.size:=rfl;clear AI AD AL AM AG AB;generalize w3.drewN nd=w5 at*;have e0:w5.cell? ⟨fb,0,none⟩=some (.int .i64 8):=by rw[zA AJ.out.C];rfl
  have jO:w5.cell? ⟨hb,19,none⟩=some (.int .i64 H3.fmt):=by rw[zA AH.out];rfl
  have An:w5.frozen? ⟨hb,19,none⟩=false:=zE AH.out 19;have HA:=A0 (O8 w5 8 2 (by kernel_rfl));go_wp2_with (first|(go_at_call 66;refine HA.out.mono ?_;rintro e wx ⟨rfl,rfl⟩)|fail)
  refine HQ.out _ _ _ _ _ _ _ _ _ _ _ _ _ _ _ _ _ _ _ _ _ _ _ _ _ _ _ _ _ _ _ _ _ _ _ _ _ _ _ _ _ _ _ _ _ _ _ _ _ _ _ _ _ _ _ _ _ _ _ _ _ _ _ _ _ _ _ _ _ _ _ _ _ _ _ _ _ _ _ _ _ _ _ _ _ _ _ _ _ _ _ _ _ _ _ _ _ _ _ _ _ _ _ _ _ _ _ _ _ _ _ _ _ _ _ _ _ _ _ _ _ _ _ _ _ _ _ _ _ _ _ _ _ _ _ _ _ _ _ _ _ _ _ _ _ _ _ _ _ _ _ _ _ _ _ _ _ _ _ _ _ _ _ _ _ _ _ _ _ _ _ _ _ _ _ _ _ _ _ _ _ _ _ _ _ _ _ _ _ _ _ _ _ _ _ _ _ _ _ _ _ _ AO _ ?_;have AE:Fr w5.heap.size [hb] w5 (w5.setCell ⟨hb,19,none⟩ (.int .i64 8)):=(Fr.refl _ _ w5).setCell (p:=⟨hb,19,none⟩) (.inl (by simp)) _;exact⟨(AJ.out.step AE (by simp;exact .inr (.inr ⟨AS,Aa⟩))).G,B6 (i:=19) (.int .i64 8) AH.out,AV.out.fr AE (by simp;omega),AW.out.fr AE (by simp;omega),AE.cells AU.out (by simp;omega) (.inr (by decide)),AS,by omega⟩
 ·skip
  have HE:Hid (H3= {H with name:=nm}):=A0 (by rw[AX];simp only[if_neg hn,if_pos hl]);have AA:=A0 (HS.out.set 1 (str nm) {H with name:=nm} rfl rfl);rw[<-HE.out] at AA;have Av:nm.isEmpty=false:=by cases nm with|nil=>exact absurd rfl hn|cons _ _=>rfl
  subst hl;clear HE HS;go_wp2_with fail
  refine(Y2 _ tr r _ _ .nilIface _ hb H3 nb AA.out.T AA.out.Hh AR.out h0 h1).mono ?_;rintro e w3 ⟨AO,rfl,AP,AY,AQ,AC⟩;have AT:=AA.out.rt;have Am:=AA.out.nbx.tl;have Al:=AA.out.nbx.rl;have Ai:=AA.out.nbx.lfb;have Ad:=AA.out.nbx.G.size;have Ae:=AC.size;have Ag:=A8 AA.out.Hh;have Ah:=A8 AA.out.nbx.C;have AI:=A0 (AA.out.nbx.step AC (by simp));have AD:=A0 (AC.cells AA.out.Hh (by simp;omega) (.inr (by decide)));have AL:=A0 (AA.out.Rd.fr AC (by simp;exact AT));have AM:=A0 AQ;have AG:=A0 AP;clear AP AQ AC AA d0 d1 d2 z1 z2;go_wp2_with fail
  refine(U2 w3 tr hb _ H3 (λ_=>none) _ AD.out (show J4 w3 H3.recs (λ_=>none) w3.heap.size from .inl ⟨Ab,λ_=>rfl⟩) Ac rfl rfl rfl).mono ?_;rintro e w4 ⟨rfl,hd⟩;obtain⟨nd,rfl⟩:=hd;have AB:=bdn (zD w3.heap.size w3) nd;have AJ:=A0 (AI.out.below AB);have AH:=A0 ((AB.block hb (A8 AD.out)).trans AD.out);have AV:=A0 (AL.out.below AB);have AW:=A0 (AM.out.below AB);have AU:=A0 ((AB.block AO (A8 AG.out)).trans AG.out);have Af: (w3.drewN nd).heap.size=w3.heap.size:=rfl;clear AI AD AL AM AG AB;generalize w3.drewN nd=w5 at*;have e0:w5.cell? ⟨fb,0,none⟩=some (.int .i64 8):=by rw[zA AJ.out.C];rfl
  have jO:w5.cell? ⟨hb,19,none⟩=some (.int .i64 H3.fmt):=by rw[zA AH.out];rfl
  have An:w5.frozen? ⟨hb,19,none⟩=false:=zE AH.out 19;have HA:=A0 (O8 w5 8 2 (by kernel_rfl));go_wp2_with (first|(go_at_call 66;refine HA.out.mono ?_;rintro e wx ⟨rfl,rfl⟩)|fail)
  refine HQ.out _ _ _ _ _ _ _ _ _ _ _ _ _ _ _ _ _ _ _ _ _ _ _ _ _ _ _ _ _ _ _ _ _ _ _ _ _ _ _ _ _ _ _ _ _ _ _ _ _ _ _ _ _ _ _ _ _ _ _ _ _ _ _ _ _ _ _ _ _ _ _ _ _ _ _ _ _ _ _ _ _ _ _ _ _ _ _ _ _ _ _ _ _ _ _ _ _ _ _ _ _ _ _ _ _ _ _ _ _ _ _ _ _ _ _ _ _ _ _ _ _ _ _ _ _ _ _ _ _ _ _ _ _ _ _ _ _ _ _ _ _ _ _ _ _ _ _ _ _ _ _ _ _ _ _ _ _ _ _ _ _ _ _ _ _ _ _ _ _ _ _ _ _ _ _ _ _ _ _ _ _ _ _ _ _ _ _ _ _ _ _ _ _ _ _ _ _ _ _ _ _ _ AO _ ?_;have AE:Fr w5.heap.size [hb] w5 (w5.setCell ⟨hb,19,none⟩ (.int .i64 8)):=(Fr.refl _ _ w5).setCell (p:=⟨hb,19,none⟩) (.inl (by simp)) _;exact⟨(AJ.out.step AE (by simp;exact .inr (.inr ⟨AS,Aa⟩))).G,B6 (i:=19) (.int .i64 8) AH.out,AV.out.fr AE (by simp;omega),AW.out.fr AE (by simp;omega),AE.cells AU.out (by simp;omega) (.inr (by decide)),AS,by omega⟩
 ·skip
  have HE:Hid (H3= {H with name:=nm,link:=lk}):=A0 (by rw[AX];simp only[if_neg hn,if_neg hl]);have AA:=A0 ((HS.out.set 1 (str nm) {H with name:=nm} rfl rfl).set 2 (str lk) {H with name:=nm,link:=lk} rfl rfl);rw[<-HE.out] at AA;have Av:nm.isEmpty=false:=by cases nm with|nil=>exact absurd rfl hn|cons _ _=>rfl
  have Au:lk.isEmpty=false:=by cases lk with|nil=>exact absurd rfl hl|cons _ _=>rfl
  clear HE HS;go_wp2_with fail
  refine(Y2 _ tr r _ _ .nilIface _ hb H3 nb AA.out.T AA.out.Hh AR.out h0 h1).mono ?_;rintro e w3 ⟨AO,rfl,AP,AY,AQ,AC⟩;have AT:=AA.out.rt;have Am:=AA.out.nbx.tl;have Al:=AA.out.nbx.rl;have Ai:=AA.out.nbx.lfb;have Ad:=AA.out.nbx.G.size;have Ae:=AC.size;have Ag:=A8 AA.out.Hh;have Ah:=A8 AA.out.nbx.C;have AI:=A0 (AA.out.nbx.step AC (by simp));have AD:=A0 (AC.cells AA.out.Hh (by simp;omega) (.inr (by decide)));have AL:=A0 (AA.out.Rd.fr AC (by simp;exact AT));have AM:=A0 AQ;have AG:=A0 AP;clear AP AQ AC AA d0 d1 d2 z1 z2;go_wp2_with fail
  refine(U2 w3 tr hb _ H3 (λ_=>none) _ AD.out (show J4 w3 H3.recs (λ_=>none) w3.heap.size from .inl ⟨Ab,λ_=>rfl⟩) Ac rfl rfl rfl).mono ?_;rintro e w4 ⟨rfl,hd⟩;obtain⟨nd,rfl⟩:=hd;have AB:=bdn (zD w3.heap.size w3) nd;have AJ:=A0 (AI.out.below AB);have AH:=A0 ((AB.block hb (A8 AD.out)).trans AD.out);have AV:=A0 (AL.out.below AB);have AW:=A0 (AM.out.below AB);have AU:=A0 ((AB.block AO (A8 AG.out)).trans AG.out);have Af: (w3.drewN nd).heap.size=w3.heap.size:=rfl;clear AI AD AL AM AG AB;generalize w3.drewN nd=w5 at*;have e0:w5.cell? ⟨fb,0,none⟩=some (.int .i64 8):=by rw[zA AJ.out.C];rfl
  have jO:w5.cell? ⟨hb,19,none⟩=some (.int .i64 H3.fmt):=by rw[zA AH.out];rfl
  have An:w5.frozen? ⟨hb,19,none⟩=false:=zE AH.out 19;have HA:=A0 (O8 w5 8 2 (by kernel_rfl));go_wp2_with (first|(go_at_call 66;refine HA.out.mono ?_;rintro e wx ⟨rfl,rfl⟩)|fail)
  refine HQ.out _ _ _ _ _ _ _ _ _ _ _ _ _ _ _ _ _ _ _ _ _ _ _ _ _ _ _ _ _ _ _ _ _ _ _ _ _ _ _ _ _ _ _ _ _ _ _ _ _ _ _ _ _ _ _ _ _ _ _ _ _ _ _ _ _ _ _ _ _ _ _ _ _ _ _ _ _ _ _ _ _ _ _ _ _ _ _ _ _ _ _ _ _ _ _ _ _ _ _ _ _ _ _ _ _ _ _ _ _ _ _ _ _ _ _ _ _ _ _ _ _ _ _ _ _ _ _ _ _ _ _ _ _ _ _ _ _ _ _ _ _ _ _ _ _ _ _ _ _ _ _ _ _ _ _ _ _ _ _ _ _ _ _ _ _ _ _ _ _ _ _ _ _ _ _ _ _ _ _ _ _ _ _ _ _ _ _ _ _ _ _ _ _ _ _ _ _ _ _ _ _ _ AO _ ?_;have AE:Fr w5.heap.size [hb] w5 (w5.setCell ⟨hb,19,none⟩ (.int .i64 8)):=(Fr.refl _ _ w5).setCell (p:=⟨hb,19,none⟩) (.inl (by simp)) _;exact⟨(AJ.out.step AE (by simp;exact .inr (.inr ⟨AS,Aa⟩))).G,B6 (i:=19) (.int .i64 8) AH.out,AV.out.fr AE (by simp;omega),AW.out.fr AE (by simp;omega),AE.cells AU.out (by simp;omega) (.inr (by decide)),AS,by omega⟩
end Go.Proofs.YtkanmkcojlefbaaGreatDoor
