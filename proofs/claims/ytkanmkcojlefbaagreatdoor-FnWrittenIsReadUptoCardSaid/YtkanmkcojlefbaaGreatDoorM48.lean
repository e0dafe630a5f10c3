/-
  Part of the proof; holds the texts Ih5, RNg, NxG, Tel, TelG, Are.
-/
import Derived.Test.YtkanmkcojlefbaaGreatDoorM47
set_option maxHeartbeats 8000000
set_option maxRecDepth 100000
set_option linter.unusedSimpArgs false
set_option linter.unusedVariables false
namespace Go.Proofs.YtkanmkcojlefbaaGreatDoor
open Go.RowKit
def IsH (x:IH) (L:List (List UInt8×List UInt8)) (W:IH) (M:List (List UInt8×List UInt8)):Prop:=
 (W.typ≠103/\A1b x W/\B1j L M)\/(W.typ=103/\x.typ=103/\B1j L M/\B1j M L)
theorem B9W (x W:IH) (L M:List (List UInt8×List UInt8)) (q:Option Addr) (cc:Nat) (w:World) (hx:N5 w x.recs L) (Ar:L.length<=4294967296) (Ah:W.recs= .slice q M.length cc) (hM:N5 w W.recs M) (AO:A7M W.recs) (AW:M.length<4611686018427387904)
  (hI:IsH x L W M):Calls Tryz.prog 12 #[.agg x.cells.toArray,.agg W.scells.toArray] w λe w'=>e= .returned (.bool true)/\Below w.heap.size w w':=by
 have HI:=A0 hI;have HX:=A0 hx;have HM:=A0 hM;have HC:=A0 AO;have AC:=A0 Ah;clear hI hx hM AO Ah;go_enter Tryz.func12,Tryz.ntmps12
 go_upto_region 1 with fail
 obtain⟨wA,AQ⟩:∃wA,wA=(w.alloc (.cells x.cells.toArray 26)).alloc (.cells W.scells.toArray 31):=⟨_,rfl⟩;rw[<-AQ];have s1: (w.alloc (.cells x.cells.toArray 26)).heap.size=w.heap.size+1:=Array.size_push ..;have Ag:wA.heap[w.heap.size]?=some (.cells x.cells.toArray 26 (0,0)):=by rw[AQ];exact(zO _ _ _ (by omega)).trans (zI w _)
 have AT:wA.heap[w.heap.size+1]?=some (.cells W.scells.toArray 31 (0,0)):=by rw[AQ,<-s1];exact zI _ _
 have AV:Below w.heap.size w wA:=by rw[AQ];exact((zD _ w).alloc (zB _) _).alloc (by omega) _
 have Ab:=A0 (A3E Ag);have HP:=A0 (A6T x L wA (N5.up HX.out AV) Ar);have H1:Hid (SB (w.heap.size+1) W wA):=A0 AT;have HB:=A0 AV;have Aq:=A8 AT;clear Ag AT AV AQ s1;go_wp2_with (first|(refine D3 rfl 26 _ rfl ⟨w.heap.size,0,none⟩ rfl _ Ab.out ?_)|fail)
 refine HP.out.mono ?_;rintro e w1 ⟨rv,rfl,Ak,⟨AP,AE,-⟩,AY⟩;have AU:=HB.out.trans (AY.mono HB.out.size);have AX:=H1.out.below AY Aq;have hz:=zI w1 (.cells #[.int .u8 0,.string {data:=#[]},.string {data:=#[]},.int .i64 0,.int .i64 0,.int .i64 0,.int .i64 0,.string {data:=#[]},.string {data:=#[]},.int .i64 0,.int .i64 0,.bool false,.bool false,.int .i64 0,.int .i64 0,.int .i64 0,.int .i64 0,.int .i64 0,.int .i64 0,.slice none 0 0,.int .i64 0] 31);have Ai:Below w1.heap.size w1 (w1.alloc (.cells #[.int .u8 0,.string {data:=#[]},.string {data:=#[]},.int .i64 0,.int .i64 0,.int .i64 0,.int .i64 0,.string {data:=#[]},.string {data:=#[]},.int .i64 0,.int .i64 0,.bool false,.bool false,.int .i64 0,.int .i64 0,.int .i64 0,.int .i64 0,.int .i64 0,.int .i64 0,.slice none 0 0,.int .i64 0] 31)):=(zD _ w1).alloc (zB _) _;obtain⟨X,hX⟩:∃X:IH,X= {x with recs:=rv}:=⟨_,rfl⟩;rw[<-hX];obtain⟨w2,Al,Aj,-,AM,-⟩:=A1X X (by rw[hX];exact AP) rfl hz;have AZ:Below w1.heap.size w1 w2:=AM _ _ Ai (zB _);have AR:=A0 Al;have AD:Hid (SB w1.heap.size X w2):=A0 Aj;have AB:=A0 (AX.below AZ (A8 AX));have AH:=A0 (AU.trans (AZ.mono AU.size));have AI:=A0 (N5.up Ak AZ);have Aa:=A0 AE;have AJ:Hid (X= {x with recs:=rv}):=A0 hX;clear AE Ak AP AY AU AX hz Ai Al Aj AM hX HP Ab H1 HB;rcases HI.out with ⟨ht,hs,hO⟩|⟨ht,As,hO,Ap⟩
 ·have Au: (W.typ==103)=false:=by simpa using ht
  have Af:=A0 (B3O X W w2 (by rw[AJ.out];exact hs.recs rv));have Ad:=A0 AD.out.load;have Ac:=A0 AB.out.load;have y0:=AB.out.cell 0 (.int .u8 W.typ) rfl;go_wp2_with (first|(refine E6 rfl 31 _ _ rfl ⟨w1.heap.size,0,none⟩ rfl _ rfl w2 AR.out ?_)|(refine D3 rfl 31 _ rfl ⟨w1.heap.size,0,none⟩ rfl _ Ad.out ?_)|(refine D3 rfl 31 _ rfl ⟨w.heap.size+1,0,none⟩ rfl _ Ac.out ?_)|fail)
  refine Af.out.mono ?_;rintro e w3 ⟨rfl,AA⟩;have Ao:=A0 (AD.out.below AA (A8 AD.out));have An:=A0 (AB.out.below AA (A8 AB.out));have AG:=A0 (AH.out.trans (AA.mono AH.out.size));have z1:=Ao.out.cell 19 rv (by rw[AJ.out];rfl);have z2:=An.out.cell 19 (.slice q M.length cc) (by rw[<-AC.out];rfl);have HH:=A0 (B4d rv L M q cc w3 (N5.up AI.out AA) (by have:=N5.up HM.out AG.out;rwa [AC.out] at this) ((HC.out _ _ _ AC.out).1) (by omega) AW ((HC.out _ _ _ AC.out).2) hO);clear AA AD AB Ad Ac y0 AR Af AI;go_wp2_with fail
  refine HH.out.mono ?_;rintro e w4 ⟨rfl,AL⟩;have AS:=A0 (AG.out.trans (AL.mono AG.out.size));clear AL;go_wp2_with fail
  go_ret
  exact⟨rfl,AS.out⟩
 ·have e0:=AD.out.cell 0 (.int .u8 103) (by rw[AJ.out,<-As];rfl)
  have y0:=AB.out.cell 0 (.int .u8 103) (by rw[<-ht];rfl);obtain⟨q2,c2,e2,-⟩:=id AI.out;subst e2;have z1:=AD.out.cell 19 (.slice q2 L.length c2) (by rw[AJ.out];rfl);have z2:=AB.out.cell 19 (.slice q M.length cc) (by rw[<-AC.out];rfl);have Ae:Hid (N5 w2 (.slice q M.length cc) M):=A0 (by have:=N5.up HM.out AH.out;rwa [AC.out] at this);have HH:=A0 (B4d (.slice q2 L.length c2) L M q cc w2 AI.out Ae.out ((HC.out _ _ _ AC.out).1) (by omega) AW ((HC.out _ _ _ AC.out).2) hO);go_wp2_with (first|(refine E6 rfl 31 _ _ rfl ⟨w1.heap.size,0,none⟩ rfl _ rfl w2 AR.out ?_)|fail)
  refine HH.out.mono ?_;rintro e w3 ⟨rfl,AA⟩;have x1:=(AD.out.below AA (A8 AD.out)).cell 19 (.slice q2 L.length c2) (by rw[AJ.out];rfl);have x2:=(AB.out.below AA (A8 AB.out)).cell 19 (.slice q M.length cc) (by rw[<-AC.out];rfl);have AG:=A0 (AH.out.trans (AA.mono AH.out.size));have Am:=A0 (B4d (.slice q M.length cc) M L q2 c2 w3 (N5.up Ae.out AA) (N5.up AI.out AA) ((Aa.out _ _ _ rfl).1) AW (by omega) ((Aa.out _ _ _ rfl).2) Ap);clear AA HH z1 z2 e0 y0 AR;go_wp2_with fail
  refine Am.out.mono ?_;rintro e w4 ⟨rfl,AL⟩;have AS:=A0 (AG.out.trans (AL.mono AG.out.size));clear AL;go_wp2_with fail
  go_ret
  exact⟨rfl,AS.out⟩
set_option maxRecDepth 100000
def gRd (nm:List UInt8) (mb:Nat):Hd:= {Hd.nil with typ:=103,name:=nm,recs:= .map (some mb),fmt:=4}
theorem B9i (nm:List UInt8) (mb:Nat):Tryz.prog.built 130 [(1,str nm),(0,.int .u8 103),(14,.map none),(15,.map (some mb)),(16,.int .i64 4)]=some (gRd nm mb).cells.toArray:=by kernel_rfl
theorem C0d {o:Oper} {ev:Operand->Value} (w:World) {t:TypeId} {xs:Array (Nat×Operand)} {u:Array Value} (AA:o.op=Op.build t xs) (hb:Tryz.prog.built t (xs.toList.map λp=>(p.1,ev p.2))=some u): (execOp ev o).run Tryz.prog w= .ok (.value (.agg u)) w:=by
 unfold execOp;have hr:=run_build (P:=Tryz.prog) w t (xs.map λp=>(p.1,ev p.2)) u (by rw[Array.toList_map];exact hb);simp only[AA,Sem.run_bind,hr,Result.andThen_ok];rfl
theorem C0X {w:World} {p:Addr} {v:Value} (h:w.cell? p=some v): (loadVar 127 p).run Tryz.prog w= .ok v w:=by simp[loadVar,go_sem,h]
structure C1A (tr r g n c i fr mb g2:Nat) (nm:List UInt8) (pad:Int) (blk:List Value) (L:List (List UInt8×List UInt8)) (v0 w:World):Prop where
 H:w.heap[g2]?=some (.cells (gRd nm mb).cells.toArray 130 (0,0))
 G:Fr v0.heap.size [r,tr] v0 w
 Rd:RD r g n c i w
 T:TR tr r pad (.iface 146 (.pointer (some ⟨fr,0,none⟩))) blk .nilIface w
 F:FRd fr r 0 w
 M:M9 w mb L.length (E0 (λ_=>none) L)
 lo:v0.heap.size<=g2
theorem C1h (tr r g n c i fb hb fr nb:Nat) (AL:Int) (pu:Bool) (AH:List Value) (bs:List UInt8) (aE:Addr) (H:Hd) (L:List (List UInt8×List UInt8)) (P:Pax) (v0 w:World) (AC:NB tr r g fb pu true false bs aE v0 w) (h:RD r g n c i w) (hf:FRd fr r nb w) (ht:TR tr r AL (.iface 146 (.pointer (some ⟨fr,0,none⟩))) AH .nilIface w) (hh:w.heap[hb]?=some (.cells H.cells.toArray 130 (0,0))) (BT:v0.heap.size<=hb) (BU:v0.heap.size<=fr)
  (AQ:H.typ=103) (Aa:nb<=1048576) (BM:i+nb<=n) (AY:n<4611686018427387904) (BP:n<=c) (An:bs.length=n) (hL: (bs.drop i).take nb=D7 L) (BO:0<nb) (Av:A4j L) (BQ:H.xattr= .map none) (As:MOk (E0 (λ_=>none) L) P) (Au:mrg H P (λk=>(E0 (λ_=>none) L k).isSome)=H)
  (Q:Exit->Act->World->Prop) (Aw:∀c d v a w,Q (.panic c) (Act.put a d v) w->Q (.panic c) a w) {c1 c2 c3 c4 c8 c9 jO jP jQ jR jS jT jU jV c20 c21 jW jX jY jZ kA kB kC kD kE kF kG kH kI kJ kL c37 kM kO kP kQ kR kS kT kU c46 kV kW kX kY c51 kZ c53 lA lB lC lD lE lF lG lH lI lJ lL lM lO lP lQ lR lS lT lU lV lW c75 lX lY lZ mA c80 mB mC mD mE c85 mF mG mH mI mJ mL mM mO mP mQ mR mS mT mU aA aB aD aF aG aH aI aJ aK aL aM aN aO aP aQ aR aS aT aU aV aW aX aY aZ bA bB bC c127 bD bE bF bG bH bI bJ bK bL bM bN bO bP bQ bR c143 bS c145 bT bU bV bW bX bY bZ cA cB cC cD cE cF cG cH cI cJ cL cM cO cP c167 c168 cQ cS c171 cT c173 cU c175 cV cW cX cY cZ dA dB dC dD dE dF dG dH dI dJ dL dM dO dP dQ dR dS dT dU dV dW dX dY:Value}
  (hQ:∀ (d0 d1 d4 d5 d6 d7 d8 d9 mV mW mX mY mZ nA nB nC nD nE nF nG nH nI nJ nL nM nO nP nQ nS nT nU nV nW nX nY nZ oA oB oC oD oE oF oG oH oI oJ oK oL oM oN oO oQ oR oS oT oU oV oW oX oY oZ pA pB pC pD pE pF pG pH pI pJ pL pM pO pP pQ pR pS pT pU pW pX pY pZ qA qB qC qD qE qF qG qH qI qJ qL qM qO qP dZ eA eC eD eH eJ eK eO eR eS eV eW eX eY eZ fA fB fC fD fE fH fI fJ fK fL fN fO fP fQ fR fS fT fU fV fW fX fY fZ gA gB gC gD gE gF gG gH gI gJ gK gL gM gN gO gP gQ gR gT gU gW gX gY gZ hJ hZ iA iB iC iD iE iF iG iH iI iJ iK iL iM iN iO iP iQ iR iS iT iU iV iW iX iY iZ jA jB jC jD jE jF jG jH jI jJ jK jL jM jN:Value) (mb g2:Nat) (w':World),C1A tr r g n c (i+nb) fr mb g2 H.name AL AH L v0 w'->Q .ret ⟨(d0::d1::.pointer (some ⟨g2,0,none⟩)::.nilIface::d4::d5::d6::d7::d8::d9::mV::mW::mX::mY::mZ::nA::nB::nC::nD::nE::nF::nG::nH::nI::nJ::nL::nM::nO::nP::nQ::nS::nT::nU::nV::nW::nX::nY::nZ::oA::oB::oC::oD::oE::oF::oG::oH::oI::oJ::oK::oL::oM::oN::oO::oQ::oR::oS::oT::oU::oV::oW::oX::oY::oZ::pA::pB::pC::pD::pE::pF::pG::pH::pI::pJ::pL::pM::pO::pP::pQ::pR::pS::pT::pU::pW::pX::pY::pZ::qA::qB::qC::qD::qE::qF::qG::qH::qI::qJ::qL::qM::qO::qP::dZ::eA::eC::eD::eH::eJ::eK::eO::eR::eS::eV::eW::eX::eY::eZ::fA::fB::fC::fD::fE::fH::fI::fJ::fK::fL::fN::fO::fP::fQ::fR::fS::fT::fU::fV::fW::fX::fY::fZ::gA::gB::gC::gD::gE::gF::gG::gH::gI::gJ::gK::gL::gM::gN::gO::gP::gQ::gR::gT::gU::gW::gX::gY::gZ::hJ::hZ::iA::iB::iC::iD::iE::iF::iG::iH::iI::iJ::iK::iL::iM::iN::iO::iP::iQ::iR::iS::iT::iU::iV::iW::iX::iY::iZ::jA::jB::jC::jD::jE::jF::jG::jH::jI::jJ::jK::jL::jM::jN::[]).toArray,[]⟩ w'):
  Code.wp Tryz.prog A2c Q ⟨(.pointer (some ⟨tr,0,none⟩)::c1::c2::c3::c4::.string {data:=#[]}::.string {data:=#[]}::.pointer (some ⟨fb,0,none⟩)::c8::c9::jO::.pointer (some ⟨hb,0,none⟩)::.pointer (some ⟨tr,3,none⟩)::jP::jQ::jR::jS::jT::jU::jV::c20::c21::jW::jX::jY::jZ::kA::kB::kC::kD::kE::kF::kG::kH::kI::kJ::kL::c37::kM::kO::kP::kQ::kR::kS::kT::kU::c46::kV::kW::kX::kY::c51::kZ::c53::lA::lB::lC::lD::lE::lF::lG::lH::lI::lJ::lL::lM::lO::lP::lQ::lR::lS::lT::lU::lV::lW::c75::lX::lY::lZ::mA::c80::mB::mC::mD::mE::c85::mF::mG::mH::mI::mJ::mL::mM::mO::mP::mQ::mR::mS::mT::mU::aA::aB::aD::aF::aG::aH::aI::aJ::aK::aL::aM::aN::aO::aP::aQ::aR::aS::aT::aU::aV::aW::aX::aY::aZ::bA::bB::bC::c127::bD::bE::bF::bG::bH::bI::bJ::bK::bL::bM::bN::bO::bP::bQ::bR::c143::bS::c145::bT::bU::bV::bW::bX::bY::bZ::cA::cB::cC::cD::cE::cF::cG::cH::cI::cJ::cL::cM::cO::cP::c167::c168::cQ::cS::c171::cT::c173::cU::c175::cV::cW::cX::cY::cZ::dA::dB::dC::dD::dE::dF::dG::dH::dI::dJ::dL::dM::dO::dP::dQ::dR::dS::dT::dU::dV::dW::dX::dY::[]).toArray,[]⟩ w:=by
 conv=>arg 2;whnf
 have HQ:=A0 hQ;have BA:=A0 As;have AB:=A0 Aw;have BC:=A0 Au;have BF:=A0 AQ;have BH:=A0 BQ;have HL:=A0 hL;have Ai:=A0 Av;have Ab:=A0 An
 have BI:hb≠fb:=by
  rintro rfl;have:=AC.C;rw[hh] at this;injection this with this;injection this with _ t _;exact absurd t (by decide)
 have BJ:fr≠fb:=by
  rintro rfl;have:=AC.C;rw[hf] at this;injection this with this;injection this with _ t _;exact absurd t (by decide)
 have BZ:hb≠fr:=by
  rintro rfl;rw[hf] at hh;injection hh with this;injection this with _ t _;exact absurd t (by decide)
 have Bh:=AC.tl;have Bd:=AC.rl;have Bb:=AC.lfb;have BV:=AC.G.size;have BY:=AC.gl;have Bi:=AC.zl;have Ba:=A8 AC.C;have BL:=AC.gS;have BR:=AC.zS;simp at BL BR
 have Be:r≠tr:=by
  obtain⟨p,hr⟩:=h;rintro rfl;rw[ht.1] at hr;cases hr
 have Am:=AC.setC (pu&&false) (true&&true) (false&&false);have c0:w.cell? ⟨hb,0,none⟩=some (.int .u8 103):=by rw[zA hh,<-AQ];rfl
 have HM:=A0 (R6 w fb pu true false false true false AC.C);have Aj:=A0 (h.off (fb:=fb) (by omega) (.int .i64 (fm (pu&&false) (true&&true) (false&&false))));have AV:Hid (TR tr r AL (.iface 146 (.pointer (some ⟨fr,0,none⟩))) AH .nilIface (w.setCell ⟨fb,0,none⟩ (.int .i64 (fm (pu&&false) (true&&true) (false&&false))))):=⟨NB.offC ht.1 (by omega) _,ht.2⟩;have Ac:Hid (FRd fr r nb (w.setCell ⟨fb,0,none⟩ (.int .i64 (fm (pu&&false) (true&&true) (false&&false))))):=NB.offC hf BJ _;have Af:=A0 (NB.offC hh BI (.int .i64 (fm (pu&&false) (true&&true) (false&&false))));have Bg: (w.setCell ⟨fb,0,none⟩ (.int .i64 (fm (pu&&false) (true&&true) (false&&false)))).heap.size=w.heap.size:=by simp[World.setCell]
 have AO:=A0 Am;clear hQ Aw As Au hL Av An AC h hf ht hh Am;go_wp2_with fail
 refine HM.out.mono ?_;rintro e wx ⟨rfl,rfl⟩;clear HM c0;generalize w.setCell ⟨fb,0,none⟩ (.int .i64 (fm (pu&&false) (true&&true) (false&&false)))=w1 at*;go_wp2_with fail
 refine(B2z w1 tr r g n c i nb fr AL AH bs aE L Aj.out Ac.out AV.out Aa BM AY BP Ab.out AO.out.S (by omega) (by simp;omega) (by simp;omega) AO.out.E (by simp;omega) HL.out BO Ai.out).mono ?_;rintro e w2 ⟨mb,rfl,Bc,Ay,Ax,Ao,AI⟩;have Ah:=A0 (AO.out.step AI (by simp;omega));have AM:=A0 (AI.cells Af.out (by simp;omega) (.inr (by decide)));have Al:=A0 (AV.out.fr AI (by simp;omega));have c0:w2.cell? ⟨hb,0,none⟩=some (.int .u8 103):=by rw[zA AM.out,<-AQ];rfl
 have BW:=AI.size;have AP:=A0 Ay;have Ak:=A0 Ax;have Ad:=A0 Ao;clear AO Af AV Aj Ac Ay Ax Ao AI HL Ai Ab AQ;have Ag:=A0 (B2n w2 hb mb L.length H _ P AM.out AP.out BA.out);go_wp2_with fail
 refine Ag.out.mono ?_;rintro e w3 ⟨rfl,AZ,AG⟩;rw[BC.out] at AZ
 have Ar:mb≠hb:=by
  rintro rfl;obtain⟨D,⟨es,cl,he,_⟩,_⟩:=AP.out;rw[AM.out] at he;cases he
 have AU:=A0 (Ah.out.step AG (by simp;omega));have BE:=A0 (Al.out.fr AG (by simp;omega));have BD:=A0 (Ak.out.fr AG (by simp;omega));have Ae:Hid (FRd fr r 0 w3):=A0 (AG.cells Ad.out (by simp;omega) (.inr (by decide)));have Az:=A0 (AP.out.fr AG (by simpa using Ar));have AT:Hid (w3.heap[hb]?=some (.cells ({H with recs:= .map (some mb)}:Hd).cells.toArray 130 (0,0))):=A0 AZ;have AR:Hid (w3.heap[fb]?=some (.cells #[.int .i64 4] 128 (0,0))):=A0 (by have:=AU.out.C;simpa[fm] using this);have BX:=AG.size;clear Ag Ah Al Ak Ad AP AM AZ AG c0 Ar;go_upto_region 48 with fail
 have AX:Hid (({H with recs:= .map (some mb)}:Hd).cells.toArray[17]?=some (.map none)):=A0 (by rw[<-BH.out];rfl);have AW:Hid (({H with recs:= .map (some mb)}:Hd).cells.toArray[0]?=some (.int .u8 103)):=A0 (by rw[<-BF.out];rfl);refine J1 (S:=λw'=>w'.heap[hb]?=some (.cells ({H with recs:= .map (some mb)}:Hd).cells.toArray 130 (0,0))/\w'.heap[fb]?=some (.cells #[.int .i64 4] 128 (0,0))) (n:=21) (l0:=S0 21 0) (by kernel_rfl) rfl (by kernel_rfl) ⟨AT.out,AR.out⟩ (λBj AA hHeld=> ?_);refine tkA (hQ:=λc a w h=>AB.out c _ _ _ w h) AA.out 0 ?_;refine tkA (hQ:=λc a w h=>AB.out c _ _ _ w h) AA.out 1 ?_;refine tkA (hQ:=λc a w h=>AB.out c _ _ _ w h) AA.out 2 ?_;refine tkL (hQ:=λc a w h=>AB.out c _ _ _ w h) AA.out 3 (λw' AE=>ld9 (B3z AE.1 1 (str H.name) rfl)) ?_;refine tkA (hQ:=λc a w h=>AB.out c _ _ _ w h) AA.out 4 ?_;refine tkA (hQ:=λc a w h=>AB.out c _ _ _ w h) AA.out 5 ?_;refine tkA (hQ:=λc a w h=>AB.out c _ _ _ w h) AA.out 6 ?_;refine tkL (hQ:=λc a w h=>AB.out c _ _ _ w h) AA.out 7 (λw' AE=>ld5 (B3z AE.1 0 (.int .u8 103) AW.out)) ?_;refine tkA (hQ:=λc a w h=>AB.out c _ _ _ w h) AA.out 8 ?_;refine tkA (hQ:=λc a w h=>AB.out c _ _ _ w h) AA.out 9 ?_;refine tkA (hQ:=λc a w h=>AB.out c _ _ _ w h) AA.out 10 ?_;refine tkL (hQ:=λc a w h=>AB.out c _ _ _ w h) AA.out 11 (λw' AE=>C0X (B3z AE.1 17 (.map none) AX.out)) ?_;refine tkA (hQ:=λc a w h=>AB.out c _ _ _ w h) AA.out 12 ?_;refine tkA (hQ:=λc a w h=>AB.out c _ _ _ w h) AA.out 13 ?_;refine tkA (hQ:=λc a w h=>AB.out c _ _ _ w h) AA.out 14 ?_
 refine tkL (hQ:=λc a w h=>AB.out c _ _ _ w h) AA.out 15 (λw' AE=>C0X (B3z AE.1 18 (.map (some mb)) rfl)) ?_;refine tkL (hQ:=λc a w h=>AB.out c _ _ _ w h) AA.out 16 (λw' AE=>B7G (B3z AE.2 0 (.int .i64 4) rfl)) ?_;refine tkA (hQ:=λc a w h=>AB.out c _ _ _ w h) (v:= .agg (gRd H.name mb).cells.toArray) (hy:=by(intro w BS;refine C0d w rfl ?_;exact B9i H.name mb)) AA.out 17 ?_;refine rdy AA.out 18 21 524287 (λK hK=> ?_);go_simp
 have AD:Below w3.heap.size w3 (w3.drew.alloc (.cells (gRd H.name mb).cells.toArray 130)):=(zD _ _).drew.alloc (zB _) _;have Ap:=A8 AT.out;have Aq:=A8 AR.out;refine hK.out _ _ ⟨(AD.block hb Ap).trans AT.out,(AD.block fb Aq).trans AR.out⟩ (λhHeld=> ?_);clear hK K;try simp only[Act.put,C5,C6,C7]
 refine tkA (hQ:=λc a w h=>AB.out c _ _ _ w h) AA.out 19 ?_;refine tkA (hQ:=λc a w h=>AB.out c _ _ _ w h) AA.out 20 ?_;refine wpAnyH_done (by rw[AA.out];kernel_rfl) ?_ _;have hf:=Fr.of_below AD w3.heap.size [];have AJ:C1A tr r g n c (i+nb) fr mb w3.heap.size H.name AL AH L v0 (w3.drew.alloc (.cells (gRd H.name mb).cells.toArray 130)):=⟨zI w3.drew _,AU.out.G.trans (Fr.of_below AD _ _),BD.out.below AD,BE.out.below AD,(AD.block fr (A8 Ae.out)).trans Ae.out,Az.out.below AD,AU.out.G.size⟩;have AS:=A0 AJ;clear AD hf AJ hHeld AA Ap Aq;go_wp2_with fail
 exact HQ.out _ _ _ _ _ _ _ _ _ _ _ _ _ _ _ _ _ _ _ _ _ _ _ _ _ _ _ _ _ _ _ _ _ _ _ _ _ _ _ _ _ _ _ _ _ _ _ _ _ _ _ _ _ _ _ _ _ _ _ _ _ _ _ _ _ _ _ _ _ _ _ _ _ _ _ _ _ _ _ _ _ _ _ _ _ _ _ _ _ _ _ _ _ _ _ _ _ _ _ _ _ _ _ _ _ _ _ _ _ _ _ _ _ _ _ _ _ _ _ _ _ _ _ _ _ _ _ _ _ _ _ _ _ _ _ _ _ _ _ _ _ _ _ _ _ _ _ _ _ _ _ _ _ _ _ _ _ _ _ _ _ _ _ _ _ _ _ _ _ _ _ _ _ _ _ _ _ _ _ _ _ _ _ _ _ _ _ _ _ _ _ _ _ _ _ _ _ _ _ _ _ _ mb _ _ AS.out
end Go.Proofs.YtkanmkcojlefbaaGreatDoor
namespace Go.Proofs.YtkanmkcojlefbaaGreatDoor
open Go.RowKit
theorem C0l (w:World) (tr r g n c i p0 fr nx:Nat) (bs:List UInt8) (AJ:List Value) (aE:Addr) (B:C1) (V:RdV) (L:List (List UInt8×List UInt8)) (P:Pax) (hR:RdF B V) (h:RD r g n c i w) (hf:FRd fr r 0 w) (Ai:p0<512) (ht:TR tr r p0 (.iface 146 (.pointer (some ⟨fr,0,none⟩))) AJ .nilIface w) (hi:i+p0+512+nx<=n) (AA:n<4611686018427387904) (AR:n<=c)
  (AE:bs.length=n) (AC:At w g 0 (Lib.byteCells bs)) (Af:g∉[r,tr]) (hB: (bs.drop (i+p0)).take 512=B.bytes) (hL: (bs.drop (i+p0+512)).take nx=D7 L) (hE:w.cell? ⟨0,0,none⟩=some (I7 aE)) (Ac:0∉[r,tr]) (AH:J9 B=103) (AT:V.size=nx) (Ag:0<nx) (Ah:nx<=1048576) (AG:A4j L) (AP:MOk (E0 (λ_=>none) L) P) (AQ:mrg (O7 B V) P (λk=>(E0 (λ_=>none) L k).isSome)=O7 B V):
  Calls Tryz.prog 72 #[.pointer (some ⟨tr,0,none⟩)] w λe w'=>∃mb,B7z tr r g n c (i+p0+512+nx) (E7 nx).toNat B (gRd (O7 B V).name mb) (E0 (λ_=>none) L) 0 w e w':=by
 have AS:r<w.heap.size:=by obtain⟨p,hr⟩:=h;exact A8 hr
 have AO:=A6E w tr r g n bs aE (by omega) AE AC hE Af Ac AS (A8 ht.1);have AD:Below w.heap.size w (w.alloc (.cells #[.int .i64 14] 128)):=(zD _ _).alloc (zB _) _;have AU: (w.alloc (.cells #[.int .i64 14] 128)).heap.size=w.heap.size+1:=Array.size_push ..
 have Ad:L.length<=4294967296:=by
  have h1:=A3m L AG;have h2: (D7 L).length<=nx:=by rw[<-hL,zR];omega
  omega
 have AB: (nx:Int)=if D1 (O7 B V).typ then 0 else(O7 B V).size:=by
  show(nx:Int)=if D1 (J9 B) then 0 else(V.size:Int)
  rw[AH,AT];rfl
 have HN:=A0 AO;have HR:=A0 (h.below AD);have HT:=A0 (ht.below AD);have HF:Hid (FRd fr r 0 (w.alloc (.cells #[.int .i64 14] 128))):=A0 ((AD.block fr (A8 hf)).trans hf);have HRF:=A0 hR;have HB:=A0 hB;have AI:=A0 AE;have Aa:=A0 AU;have AY:=A0 AB;have HL:=A0 hL;have AW:=A0 AP;have AZ:=A0 AG;have Ab:=A0 AH;have AX:=A0 AQ;clear AO AD AU h hf ht AC hE hR hB AE AB AS hL AP AG AH AT AQ;go_enter Tryz.func72,Tryz.ntmps72
 go_upto_region 3 with fail
 rename_i K1 AM;have AV:=A0 AM;clear AM;go_wp2_with fail
 refine AV.out _ _ ?_;refine wp_block ?_;refine wp_loop_once ?_;refine wp_block ?_;refine rd1 tr r g n c i p0 w.heap.size fr true true true bs aE B (O7 B V) true true false rfl nx AJ w _ (B5z HRF.out) HN.out HR.out HF.out HT.out (by omega) (by omega) AA AR AI.out HB.out AY.out (by omega) (by omega) (by rw[Aa.out];omega) _ ?_;intros
 rename_i Ae AL wx hx;refine C1h tr r g n c _ w.heap.size Ae AL nx _ true _ bs aE (O7 B V) L P w wx hx.nbx hx.R hx.F hx.T hx.H hx.hb0 hx.fr0 Ab.out Ah (by omega) AA AR AI.out HL.out Ag AZ.out rfl AW.out AX.out _ (λc d v a w h=>by cases d<;>exact h) ?_;intros
 rename_i mb g2 w9 h9;go_ret2
 have e1: (((E7 nx).toNat:Nat):Int)=E7 nx:=by unfold E7;omega
 exact⟨mb,g2,AL,rfl,h9.H,.inr ⟨mb,L.length,rfl,h9.M.lt,h9.M,Ad⟩,h9.Rd,by rw[e1];exact h9.T,h9.F,h9.G,h9.lo,hx.fr0⟩
theorem A4O.recs0 {f:Bool×Bool×Bool} {m:KV} {H:Hd} {rv AB:Value} {AA:List UInt8} (k:A4O f m {H with recs:=rv} AA):A4O f m {H with recs:=AB} AA:=by
 rcases k with ⟨h1,B2,u,h3⟩|⟨h1,h2,B2,X,p,px,h3⟩|⟨h1,h2,B2,X,Y,p,x,y,h3⟩
 ·exact .inl ⟨h1,B2,⟨u.ok,u.typ,u.name,u.link,u.user,u.group,u.mode,u.uid,u.gid,u.size,u.mtime,u.maj,u.mnr,u.magic,u.ver,u.chk,u.rest⟩,h3⟩
 ·exact .inr (.inl ⟨h1,h2,B2,X,⟨p.ok,p.typ,p.name,p.link,p.user,p.group,p.mode,p.uid,p.gid,p.size,p.mtime,p.maj,p.mnr,p.magic,p.ver,p.chk,p.rest⟩,px,h3⟩)
 ·exact .inr (.inr ⟨h1,h2,B2,X,Y,⟨p.ok,p.typ,p.name,p.link,p.user,p.group,p.mode,p.uid,p.gid,p.size,p.mtime,p.maj,p.mnr,p.magic,p.ver,p.chk,p.rest⟩,x,y,h3⟩)
theorem B1B (h:IH) (rv:Value): ({h.hd2 with recs:=rv}:Hd).prom.rnd= {h.hd2.prom.rnd with recs:=rv}:=by
 by_cases hf:h.hd2.fmt=0
 ·have h1: ({h.hd2 with recs:=rv}:Hd).prom.fmt=0:=hf
  have h2:h.hd2.prom.fmt=0:=hf;unfold Hd.rnd;rw[if_pos h1,if_pos h2];rfl
 ·have h1:¬({h.hd2 with recs:=rv}:Hd).prom.fmt=0:=hf
  have h2:¬h.hd2.prom.fmt=0:=hf;unfold Hd.rnd;rw[if_neg h1,if_neg h2];rfl
theorem A4O.recs {f:Bool×Bool×Bool} {m:KV} {h:IH} {rv AB:Value} {AA:List UInt8} (k:A4O f m ({h.hd2 with recs:=rv}:Hd).prom.rnd AA):A4O f m ({h.hd2 with recs:=AB}:Hd).prom.rnd AA:=by
 rw[B1B] at k⊢;exact k.recs0
def B9y (f:FI) (W:IH) (en:Ent):Prop:=C0Z en/\en.ds=f.ds/\∀ (mb:Nat) (rv:Value) (L2:List (List UInt8×List UInt8)),A8j en.R2 L2->L2.length<=4294967296/\IsH ({A0e (en.Hf mb) with recs:=rv}:IH) L2 W f.L
theorem B9m {f:Bool×Bool×Bool} {m:KV} {H:Hd} {AA:List UInt8} (h:A4O f m H AA) (h1:H.name.length<=600000) (h2:H.link.length<=600000):AA.length<=8388608:=by
 have hp:∀n:Nat,(E7 n).toNat<512:=λn=>by unfold E7;omega
 rcases h with ⟨-,B2,hu,rfl⟩|⟨-,-,B2,X,AB,hx,rfl⟩|⟨-,-,B2,X,Y,hg,hx,hy,rfl⟩
 ·rw[hu.ok.len];decide
 ·rw[zH,AB.ok.len]
  rcases hx with ⟨-,rfl⟩|⟨R,L,hr,-,-,-,hl,rfl⟩
  ·decide
  ·have:=hp (D7 L).length
   simp only[List.length_append,List.length_replicate,hr.ok.len];omega
 ·have:=hx.len;have:=hy.len
  simp only[List.length_append,hg.ok.len];omega
theorem C1L (G0:Nat) (E:Nat->Addr) (f:FI) (W:IH) (Ag:Value) (AA:Bool) (T:B9g f.h W Ag f.L AA) (hd: (if D1 W.typ then(0:Int) else W.size)=f.ds.length) (hl:f.ds.length<=1048576):B6Z G0 E f (B9y f W):=by
 intro B tw b fw Af oh rv A5p AP bs w hW hB hF AY AT Ae AX AU AB hp hh hr AR AG
 have ht: ({f.h.hd2 with recs:=rv}:Hd).prom.typ=W.typ:=by
  have:=T.typ;unfold IH.hx at this;rw[B4a] at this;exact this
 have hs: ({f.h.hd2 with recs:=rv}:Hd).size=W.size:=by
  have:=T.size;unfold IH.hx at this;rw[B3J] at this;exact this
 refine(A8c G0 E B tw b fw Af oh A5p {f.h.hd2 with recs:=rv} (R0f f.L) AA _ _ AP bs w hW hB hF AY AT Ae AX AU AB hp hh T.hrn (T.ok rv) hr rfl AR _ rfl AG).mono ?_;rintro e w' ⟨rfl,AQ,AH,AD,AC,pd,hQ,AS,AV,Aa,AI,Ac,AZ,hK⟩;rw[ht,hs,hd] at hQ AI;rcases hQ with ⟨-,ho,rfl⟩|⟨h,-⟩
 ·have AL:A4O _ _ (f.h.hx (.map none)) AH:=A4O.recs ho
  obtain⟨B2,f2,R2,AO,AJ,AW,hN⟩:=B9q AH (f.h.hx (.map none)) (R0f f.L) AA T.hg (λh1 h2=>by rcases T.up with h|h|h;rw[h1] at h;cases h;rw[h2] at h;cases h;exact h) AL;rw[T.typ,T.size,hd] at hN;have e1: (((E7 f.ds.length).toNat:Nat):Int)=E7 f.ds.length:=by unfold E7;omega
  have AM: (E7 f.ds.length).toNat<512:=by unfold E7;omega
  have Ad: (f.h.hx (.map none)).name.length<=600000:=(T.ok (.map none)).nl;have Ab: (f.h.hx (.map none)).link.length<=600000:=(T.ok (.map none)).ll
  have AE:∀L2,A8j R2 L2->L2.length<=4294967296:=λL2 h2=>by
   rcases AJ with rfl|⟨-,h⟩
   ·have:=T.hg.recl_len h2;omega
   ·have e:R2=λ_=>none:=funext h
    subst e;have:=A5L h2;omega
  exact⟨rfl,⟨AH,f.ds,(E7 f.ds.length).toNat,B2,λmb=> {(f.h.hx (.map none)).rd f2 with recs:=AO mb},R2⟩,AQ,AD,AC,
   ⟨⟨hN.q,λmb=>T.hg.inO f2 AW (AO mb),hl,AM⟩,rfl,λmb Ah L2 h2=>⟨AE L2 h2,.inl ⟨T.wt,T.same f2 Ah,T.has R2 L2 h2 AJ⟩⟩⟩,rfl,
   ⟨AS,by rw[e1];exact AV,Aa,AI,Ac,AZ,hK,B9m AL Ad Ab,hl,AM⟩⟩
 ·rw[B4a,ht] at h
  exact absurd h T.wt
theorem B6W.recs {h:IH} {L:List (List UInt8×List UInt8)} (g:B6W h L):L1 L<=524288/\∀r∈L,A2r r.1 r.2:=by
 obtain⟨rv,k⟩:=g.can;have k:=k.flat;exact⟨by have:=k.sum;omega,k.recs⟩
theorem A2E {L:List (List UInt8×List UInt8)} {k v:List UInt8} (h:R0f L k=some v): (k,v)∈L:=by
 rcases Z3 L (λ_=>none) k v h with h|h
 ·exact h
 ·cases h
theorem B9O {L:List (List UInt8×List UInt8)} (h:∀r∈L,A2r r.1 r.2) (k:List UInt8) (hk:k∈F6):R0f L k=none:=by
 cases e:R0f L k with
 |none=>rfl
 |some v=>exact absurd hk (A6M (h _ (A2E e)))
theorem C1J (rv:Value) (F:Int) (R:KV) (hR:∀k∈F6,R k=none): ((gHd rv F).st R).m=λ_=>none:=by
 funext k
 by_cases hk:k∈F6
 ·have a1:=hR H0 (by decide);have a2:=hR I3 (by decide);have a3:=hR F8 (by decide);have a4:=hR F7 (by decide);have a5:=hR V2 (by decide);have a6:=hR V1 (by decide);have a7:=hR N9 (by decide);have a8:=hR H6 (by decide);have a9:=hR J5 (by decide);have b1:=hR J6 (by decide)
  have e1:D6 []=true:=rfl;have e2:B8 8 0=true:=by decide
  have e3:B8 12 0=true:=by decide
  have e4:E5 0 0=true:=by decide
  simp only[F6,List.mem_cons,List.not_mem_nil,or_false] at hk;rcases hk with rfl|rfl|rfl|rfl|rfl|rfl|rfl|rfl|rfl|rfl;all_goals first|exact(A4e (H:=gHd rv F) (R:=R)).trans (if_neg (by simp[R8,A0H,V4,gHd,a1,a2,a3,a4,a5,a6,a7,a8,a9,b1,e1,e2,e3,e4]))|exact(A4c (H:=gHd rv F) (R:=R)).trans (if_neg (by simp[R8,A0H,V4,gHd,a1,a2,a3,a4,a5,a6,a7,a8,a9,b1,e1,e2,e3,e4]))|exact(A3Q (H:=gHd rv F) (R:=R)).trans (if_neg (by simp[R8,A0H,V4,gHd,a1,a2,a3,a4,a5,a6,a7,a8,a9,b1,e1,e2,e3,e4]))|exact(A3O (H:=gHd rv F) (R:=R)).trans (if_neg (by simp[R8,A0H,V4,gHd,a1,a2,a3,a4,a5,a6,a7,a8,a9,b1,e1,e2,e3,e4]))|exact(A7E (H:=gHd rv F) (R:=R)).trans (if_neg (by simp[R8,A0H,V4,gHd,a1,a2,a3,a4,a5,a6,a7,a8,a9,b1,e1,e2,e3,e4]))|exact(A7D (H:=gHd rv F) (R:=R)).trans (if_neg (by simp[R8,A0H,V4,gHd,a1,a2,a3,a4,a5,a6,a7,a8,a9,b1,e1,e2,e3,e4]))|exact(A4f (H:=gHd rv F) (R:=R)).trans (if_neg (by simp[R8,A0H,V4,gHd,a1,a2,a3,a4,a5,a6,a7,a8,a9,b1,e1,e2,e3,e4]))|exact(A3P (H:=gHd rv F) (R:=R)).trans (if_neg (by simp[R8,A0H,V4,gHd,a1,a2,a3,a4,a5,a6,a7,a8,a9,b1,e1,e2,e3,e4]))|exact(A3M (H:=gHd rv F) (R:=R)).trans (if_neg (by simp[R8,A0H,V4,gHd,a1,a2,a3,a4,a5,a6,a7,a8,a9,b1,e1,e2,e3,e4]))|exact(A3N (H:=gHd rv F) (R:=R)).trans (if_neg (by simp[R8,A0H,V4,gHd,a1,a2,a3,a4,a5,a6,a7,a8,a9,b1,e1,e2,e3,e4]))
 ·exact A4d _ _ hk
theorem C0N (R:KV):R3 (λ_=>none) R 103=R:=by
 funext k
 simp[R3]
theorem C0f (rv:Value) (F:Int) (hF:F=0\/F=4) (L:List (List UInt8×List UInt8)) (AD:L≠ []) (AA:∀r∈L,A2r r.1 r.2) (AE:L1 L<=524288):
  HOk (gHd rv F) (R0f L) true (S8 (((gHd rv F).st (R0f L)).u&& !true) ((gHd rv F).st (R0f L)).p (((gHd rv F).st (R0f L)).g&& !true) ((gHd rv F).st (R0f L)).q F) (R0f L):=by
 have hp: ((gHd rv F).st (R0f L)).p=true:=by rw[st_p];show(B8 8 0&&B8 8 0&&B8 8 0)=true;decide
 have hk:∃k,R0f L k≠none:=by
  obtain⟨p,L',rfl⟩:=List.exists_cons_of_ne_nil AD;exact⟨p.1,A9Q _ _ _ (.inr (by simp))⟩
 have hf:∀q:Bool,(S8 (((gHd rv F).st (R0f L)).u&& !true) ((gHd rv F).st (R0f L)).p (((gHd rv F).st (R0f L)).g&& !true) ((gHd rv F).st (R0f L)).q F).1=false/\(S8 (((gHd rv F).st (R0f L)).u&& !true) ((gHd rv F).st (R0f L)).p (((gHd rv F).st (R0f L)).g&& !true) ((gHd rv F).st (R0f L)).q F).2.1=true:=λ_=>by
  rw[hp];rcases hF with rfl|rfl<;>simp[S8]
 obtain⟨f1,f2⟩:=hf true;have AB:∀k v,R0f L k=some v->k.length+v.length+24<=524288:=λk v h=>zP (A2K (A2E h)) AE;have AC: (gHd rv F).InT:=⟨⟨?_,?_,?_,?_,?_,?_,?_,?_,?_,?_,?_,?_,?_⟩,?_,?_,?_,?_⟩
 exact {
  inT:=AC
  r0:=by
   cases e:R0f L [] with
   |none=>rfl
   |some v=>
    obtain⟨-,-,-,-,-,-,c,t,h,-⟩:=AA _ (A2E e);cases h
  ty:= .inr ⟨rfl,rfl⟩
  gf4:=λ_=>⟨f1,f2,hk⟩
  sl:=λh=>by cases h
  sz:= .inr (Int.le_refl _)
  xa:=rfl
  h0:=λh=>by cases h
  h1:=λ_=>hk
  fmt:=by show F=0\/F=2\/F=4\/F=8;omega
  fe:=rfl
  me:=by rw[C1J rv F _ (B9O AA)];exact(C0N _).symm
  up:= .inr (.inl f2)
  uf:=λh=>by rw[f1] at h;cases h
  gf:=λ_ h=>by rw[f2] at h;cases h
  nl:=zW _
  ll:=zW _
  val:=λk v h=>⟨A4E (AA _ (A2E h)),by have:=AB k v h;omega,by have:=AB k v h;omega⟩
  sum:=λM hn hm=>by
   have:=B1I M L hn (λp hp=>⟨A2E (hm p hp),A4E (AA _ (A2E (hm p hp)))⟩) (λp hp=>by have:=AB _ _ (hm p hp);omega);omega}
 all_goals simp[gHd]
theorem B9V (L:List (List UInt8×List UInt8)):∀ (m:KV) (k:List UInt8),E0 m L k=(A0g L k).or (m k):=by
 induction L with
 |nil=>intro m k;rfl
 |cons p L ih=>
  intro m k;rw[E0,ih]
  have e:A0g (p::L) k=(A0g L k).or (if p.1=k then some p.2 else none):=by
   unfold A0g;rw[List.reverse_cons,List.find?_append];cases L.reverse.find? (λp=>p.1==k) with
   |some q=>rfl
   |none=>by_cases h:p.1=k<;>simp[h]
  rw[e];cases A0g L k with
  |some v=>rfl
  |none=>
   by_cases h:p.1=k
   ·subst h;simp[U6]
   ·simp[h,R9 _ _ _ _ (Ne.symm h)]
theorem B9L {L L2:List (List UInt8×List UInt8)} (h:A8j (R0f L) L2):B1j L2 L/\B1j L L2:=by
 constructor
 ·intro i hi hl
  exact B2I h.nd (h.all _ _ (A8B L (λ_=>none) i hi hl))
 ·intro i hi _
  have h1:=h.mem _ (List.getElem_mem hi);have h2:=B9V L (λ_=>none) L2[i].1;rw[show E0 (λ_=>none) L L2[i].1=some L2[i].2 from h1] at h2;cases e:A0g L L2[i].1 with
  |none=>rw[e] at h2;cases h2
  |some v=>rw[e] at h2;exact h2.symm
theorem C1K (G0:Nat) (E:Nat->Addr) (f:FI) (W:IH) (ht:f.h.typ=103) (hW:W= {f.h with recs:=W.recs}) (g:B6W f.h f.L) (h0:f.ds=[]):B6Z G0 E f (B9y f W):=by
 intro B tw b fw BJ oh rv A5p Ah bs w Av hB hF Az Ak BH Ay Al AD hp hh hr Ai AP;obtain⟨BF,AC⟩:=g.recs;have BI:W.typ=103:=by rw[hW];exact ht
 have AM:X9 f.h.fmt=0\/X9 f.h.fmt=4:=by rcases g.fmt with h|h<;>(rw[h];simp[X9])
 have hH: ({f.h.hd2 with recs:=rv}:Hd).prom.rnd=gHd rv (X9 f.h.fmt)/\({f.h.hd2 with recs:=rv}:Hd).prom.typ=103/\f.h.hd2.size=0/\f.h.hd2.mw=0/\f.h.hd2.mx=0:=by
  obtain⟨g1,g2,g3,g4,g5,g6,g7,g8,g9,AY,AZ,Aa,Ab,g14,-,-,-⟩:=g;generalize f.h=x at*;obtain⟨typ,name,link,size,mode,uid,gid,user,group,ms,mn,hasA,ats,atn,hasC,cts,ctn,maj,mnr,recs,fmt⟩:=x;simp only at ht g1 g2 g3 g4 g5 g6 g7 g8 g9 AY AZ Aa Ab g14;subst ht g1 g2 g3 g4 g5 g6 g7 g8 g9 AY AZ Aa Ab g14;refine⟨?_,rfl,rfl,rfl,rfl⟩;simp only at AM;rcases AM with h|h<;>simp[Hd.rnd,Hd.prom,IH.hd2,IH.hd1,IH.hd0,gHd,h]
 obtain⟨Am,Ad,An,Ao,Ap⟩:=hH
 refine(A8c G0 E B tw b fw BJ oh A5p {f.h.hd2 with recs:=rv} (R0f f.L) true _ _ Ah bs w Av hB hF Az Ak BH Ay Al AD hp hh (λ_=>by
  show 0<=f.h.hd2.mw/\f.h.hd2.mw<1000000000/\f.h.hd2.mw≠500000000/\-4611686018427387904<=f.h.hd2.mx/\f.h.hd2.mx<=4611686018427387904
  rw[Ao,Ap];decide) (by rw[Am];exact C0f rv _ AM f.L g.ne AC BF) hr rfl Ai _ rfl AP).mono ?_
 rintro e w' ⟨rfl,AX,BL,AL,AI,pd,hQ,Aj,Au,BC,Ac,BD,BA,hK⟩;rw[Ad] at hQ Ac;rcases hQ with ⟨h,-⟩|⟨-,n,rfl,R,AB,AU,Ae,Aq,Ar,As,rfl,rfl⟩
 ·rw[B4a,Ad] at h;exact absurd rfl h
 ·have AG:f.ds.length=0:=by rw[h0];rfl
  have Ag:E0 (λ_=>none) AB=R0f f.L:=A9P _ AB Ae Aq;have AA:=B9O AC
  have AO:∀L2,A8j (R0f f.L) L2->L2.length<=4294967296:=λL2 h2=>by
   have hm:∀p∈L2,p∈f.L:=λp hp=>A2E (h2.mem p hp);have h3:=B1I L2 f.L h2.nd (λp hp=>⟨hm p hp,A4E (AC _ (hm p hp))⟩) (λp hp=>by have:=A2K (hm p hp);omega)
   have h4:=A3m L2 (λp hp=>by
    have h:=AC _ (hm p hp);refine⟨A4E h,λe=> ?_,λe=> ?_⟩<;>(have h5:=h.2.2.2.2.1;rw[e] at h5;exact h5 (by decide)))
   omega
  have AQ:R.bytes.length=512:=AU.ok.len;have AR:∀p∈AB,A2r p.1 p.2:=λp hp=>AC _ (A2E (Ae p hp))
  have AE:A4j AB:=λp hp=>by
   have h:=AR p hp;refine⟨A4E h,λe=> ?_,λe=> ?_⟩<;>(have h5:=h.2.2.2.2.1;rw[e] at h5;exact h5 (by decide))
  have AT:0< (D7 AB).length:=by
   obtain⟨p,L',rfl⟩:=List.exists_cons_of_ne_nil Ar;rw[T7,zH,P7]
   have:=A0y p.1 p.2 (by
    have h:=M7 (AE p (by simp)).1;exact List.length_pos_iff.2 h.1)
   omega
  have BE:MOk (E0 (λ_=>none) AB) ⟨none,none,none,none,none,none,none,none,none,none⟩:=by
   rw[Ag];refine⟨⟨AA _ (by decide),AA _ (by decide),AA _ (by decide),AA _ (by decide),AA _ (by decide),AA _ (by decide),AA _ (by decide),AA _ (by decide),AA _ (by decide),AA _ (by decide),?_,?_,?_,?_,?_,?_⟩,λk v h=>(AC _ (A2E h)).2.2.1,λk v h=>A2g (n:=7) (by decide) (AC _ (A2E h)).2.2.2.2.2.1,λk v h=>by have:k.length+v.length+24<=L1 f.L:=A2K (A2E h);omega⟩<;>(intro x hx;cases hx)
  have AV:=AU.rdf (by decide) (by
                     have: (8:Nat)^11=8589934592:=by decide
                     omega)
  have AW:J9 R=103:=by rw[J9,AU.typ];exact typ_back _ (by decide)
  have AS: (R.bytes++D7 AB).length=512+(D7 AB).length:=by rw[zH,AQ]
  have Af: (E7 (D7 AB).length).toNat<512:=by unfold E7;omega
  have hN:C0a (R.bytes++D7 AB) (E7 (D7 AB).length).toNat R (λmb=>gRd (O7 R ⟨0,0,0,(D7 AB).length,0,0,0⟩).name mb) (R0f f.L) (f.ds.length:Nat):=by
   rw[AG,<-Ag];intro w1 tr r g1 n c i p0 fr AJ AH aE a1 a2 a3 a4 a5 a6 a7 a8 a9 b1 b2 b3 b4;rw[AS] at a5
   have Aw: (AJ.drop (i+p0)).take 512=R.bytes:=by
    have:=A4L (a:=[]) (b:=R.bytes) (c:=D7 AB) (by simp) AQ b2 (qp:=i+p0) (by simp);exact this
   have Ax: (AJ.drop (i+p0+512)).take (D7 AB).length=D7 AB:=A4L (a:=R.bytes) (c:=[]) (by simp) rfl b2 (by rw[AQ]);refine(C0l w1 tr r g1 n c i p0 fr (D7 AB).length AJ AH aE R _ AB ⟨none,none,none,none,none,none,none,none,none,none⟩ AV a1 a2 a4 a3 (by omega) a6 a7 a8 a9 b1 Aw Ax b3 b4 AW rfl AT As AE BE (by simp[mrg])).mono ?_;rintro e w2 ⟨mb,h⟩;rw[AS,<-Nat.add_assoc];exact⟨mb,h⟩
  refine⟨rfl,⟨R.bytes++D7 AB,f.ds,_,R,_,R0f f.L⟩,AX,AL,AI,⟨⟨hN,λmb=>⟨?_,?_,?_,?_,?_,?_,.inr (.inl rfl)⟩,by rw[AG];decide,Af⟩,rfl,λmb BM L2 h2=>⟨AO L2 h2,.inr ⟨BI,rfl,(B9L h2).1,(B9L h2).2⟩⟩⟩,rfl,⟨Aj,Au,BC,?_,BD,BA,hK,?_,by show f.ds.length<=_;rw[AG];decide,Af⟩⟩;all_goals first|(simp[gRd,Hd.nil];done)|skip
  ·show FW AX _ (f.ds.length:Nat) w'
   rw[AG];have e: (if D1 103=true then(0:Int) else f.h.hd2.size)=0:=by rw[An];rfl
   have h:=Ac;rw[show(if D1 103=true then(0:Int) else({f.h.hd2 with recs:=rv}:Hd).size)=0 from e] at h;exact h
  ·show(R.bytes++D7 AB).length<=8388608
   rw[AS];omega
def C0b (w:World) (p q:Option Addr) (j:Nat):Prop:=
 ∃ (g o g1 o1:Nat) (X:IH) (L:List (List UInt8×List UInt8)) (dv:Value) (W:IH) (M:List (List UInt8×List UInt8)) (dw:Value) (ds:List UInt8),p=some ⟨g,o,none⟩/\q=some ⟨g1,o1,none⟩/\g<w.heap.size/\g1<w.heap.size/\At w g (o+j*23) (A0I X dv 1)/\At w g1 (o1+j*22) (W.scells++[dw])/\N5 w X.recs L/\L.length<=4294967296/\N5 w W.recs M/\M.length<4611686018427387904/\A7M W.recs/\A4W w dv ds/\A4W w dw ds/\IsH X L W M
theorem C0O {w:World} {g o:Nat} {h:IH} {l:List Value} (k:At w g o (h.scells++l)): (loadVar 31 ⟨g,o,none⟩).run Tryz.prog w= .ok (.agg h.scells.toArray) w:=by
 obtain⟨d,h1,h2⟩:=B7j;refine A2A w g o 31 h.scells.toArray (λj v hj=>k j v ?_) d h1 h2 (by rw[B2X];rfl);rw[List.toList_toArray] at hj;rw[zX (zM.1 hj).1];exact hj
theorem C1e (g o n c k:Nat) (hk:k<n) (w:World): (Instr.indexAt 42 (.slice (some ⟨g,o,none⟩) n c) (.int .i64 k)).run Tryz.prog w= .ok (.pointer (some ⟨g,o+k*22,none⟩)) w:=by
 have h0: (0:Int)<=k:=by omega
 have h1: (k:Int)<n:=by omega
 simp[Instr.indexAt,go_sem,asIntOf];intro h;omega
theorem C1F {o:Oper} {ev:Operand->Value} (w:World) {x i:Operand} {g q n c k:Nat} (AA:o.op=Op.indexAddr 42 x i) (hx:ev x= .slice (some ⟨g,q,none⟩) n c) (hi:ev i= .int .i64 k) (hk:k<n): (execOp ev o).run Tryz.prog w= .ok (.value (.pointer (some ⟨g,q+k*22,none⟩))) w:=by
 unfold execOp;have hr:=C1e g q n c k hk w;simp only[AA,hx,hi,Sem.run_bind,hr,Result.andThen_ok];rfl
theorem C1H {w:World} {p:Addr} {v:Value} (h:w.cell? p=some v): (loadVar 35 p).run Tryz.prog w= .ok v w:=by simp[loadVar,go_sem,h]
theorem C0P (p q:Option Addr) (n c c1:Nat) (w:World) (hn:n<=4611686018427387904) (h:∀j,j<n->C0b w p q j):Calls Tryz.prog 19 #[.slice p n c,.slice q n c1] w λe w'=>e= .returned (.bool true)/\Below w.heap.size w w':=by
 have HP:=A0 h;clear h;go_enter Tryz.func19,Tryz.ntmps19
 go_wp2_with fail
 go_loopw [14] (λs14 wr=>∃k:Nat,s14= .int .i64 k/\k<=n/\Hid (Below w.heap.size w wr)) (λs14 _=>n- (intOf s14).toNat)
 case atStart=>exact⟨0,rfl,zW _,A0 (zD _ _)⟩
 case round=>
  obtain⟨k,rfl,hk,hB⟩:=hrel;by_cases AO:k<n
  ·obtain⟨g,o,g1,o1,X,L,dv,W,M,dw,ds,rfl,rfl,hg,AV,ha,AR,hr,Ah,hm,Ag,AJ,AL,AU,hI⟩:=HP.out k AO
   have AS:=ha.carry (hB.out.block g hg);have AE:=AR.carry (hB.out.block g1 AV);have Af:=A0 (B2g (f:=⟨X,[],[],dv,1⟩) AS);have AZ:=hr.below hB.out;have AX:=hm.below hB.out;obtain⟨wB,Aa,AM,-,AT,-⟩:=B7u X dv 1 hr.one5 AL.one rfl (zI wr (.cells z91 91));have AC:Below wr.heap.size wr wB:=AT _ _ ((zD _ _).alloc (zB _) _) (zB _);have AH:wr.heap.size<wB.heap.size:=A8 AM;have AW:g1<wB.heap.size:=by have:=hB.out.size;omega
   obtain⟨mq,mc,AY,-⟩:=id hm;have AP:=A0 Aa;have AG:=A0 AM;have AQ:=A0 (AE.carry (AC.block g1 (zL AV hB.out.size)));have Ac:=A0 (λwx (hb:Below wB.heap.size wB wx)=>((AL.below hB.out).below AC).below hb);have Ad:=A0 (λwx (hb:Below wB.heap.size wB wx)=>((AU.below hB.out).below AC).below hb);have Ae:=A0 (λwx (hb:Below wB.heap.size wB wx)=>B9W X W L M mq mc wx ((AZ.below AC).below hb) Ah AY ((AX.below AC).below hb) AJ Ag hI);have AI:=A0 (hB.out.trans (AC.mono hB.out.size));obtain⟨g6,h6⟩:∃g6,g6=wr.heap.size:=⟨_,rfl⟩;rw[<-h6] at AP AG AH;have H6:=A0 h6;clear ha AR hr hm AL AU hI AS AE AZ AX Aa AM AT AC AY;go_upto_region 6 with (first|(refine D3 rfl 91 _ rfl ⟨g,o+k*23,none⟩ rfl _ Af.out ?_)|(rw[<-h6];refine E6 rfl 91 _ _ rfl ⟨g6,0,none⟩ rfl (.agg (A0I X dv 1).toArray) rfl wB AP.out ?_)|fail)
   clear h6;refine J1 (S:=λw'=>Below wB.heap.size wB w') (n:=25) (l0:=S0 25 0) (by kernel_rfl) rfl (by kernel_rfl) (zD _ _).drew (λAi AA hHeld=> ?_);have HB:Hid (Below wB.heap.size wB wB.drew):=A0 (zD _ _).drew;generalize wB.drew=u0 at*;refine tkA AA.out 0 ?_;refine tkL AA.out 1 (λw' AB=>ld3 (A7H (f:=⟨X,[],[],dv,1⟩) ((AB.block g6 AH).trans AG.out) 22 _ rfl)) ?_;refine tkA AA.out 2 ?_;refine tkA AA.out 3 ?_;refine tkA AA.out 4 ?_;refine tkL AA.out 5 (λw' AB=>B3f (h:=X) (l:=[dv,.int .i64 1]) (A7H (f:=⟨X,[],[],dv,1⟩) ((AB.block g6 AH).trans AG.out))) ?_;refine tkA AA.out 6 ?_;refine tkA AA.out 7 ?_;refine tkA (v:= .pointer (some ⟨g1,o1+k*22,none⟩)) (hy:=λw _=>C1F w rfl rfl rfl AO) AA.out 8 ?_;refine tkA AA.out 9 ?_;refine tkL AA.out 10 (λw' AB=>C0O (AQ.out.carry (AB.block g1 AW))) ?_;refine rdy AA.out 11 25 4095 (λK hK=> ?_);rw[if_pos (by rw[AA.out];kernel_rfl)];go_simp
   go_at_call 12
   refine(Ae.out _ HB.out).mono ?_;rintro e u1 ⟨rfl,hb⟩;have AD:=A0 (HB.out.trans (hb.mono HB.out.size));clear hb HB;have HB:=AD;refine hK.out _ _ HB.out (λhHeld=> ?_);clear hK K AD;try simp only[Act.put,C5,C6,C7]
   refine tkA AA.out 12 ?_;refine tkA AA.out 13 ?_;refine tkA AA.out 14 ?_;refine tkA AA.out 15 ?_;refine tkL AA.out 16 (λw' AB=>C1H (A7H (f:=⟨X,[],[],dv,1⟩) ((AB.block g6 AH).trans AG.out) 21 _ rfl)) ?_;refine tkA AA.out 17 ?_;refine tkA AA.out 18 ?_;refine tkA (v:= .pointer (some ⟨g1,o1+k*22,none⟩)) (hy:=λw _=>C1F w rfl rfl rfl AO) AA.out 19 ?_;refine tkA AA.out 20 ?_;refine tkL AA.out 21 (λw' AB=>C1H (AQ.out.carry (AB.block g1 AW) 21 _ rfl)) ?_;refine rdy AA.out 22 25 8388607 (λK hK=> ?_);rw[if_pos (by rw[AA.out];kernel_rfl)];go_simp
   go_at_call 49
   refine(B9F dv dw ds _ (Ac.out _ HB.out) (Ad.out _ HB.out)).mono ?_;rintro e u2 ⟨rfl,rfl⟩;refine hK.out _ _ HB.out (λhHeld=> ?_);clear hK K;try simp only[Act.put,C5,C6,C7]
   refine tkA AA.out 23 ?_;refine tkA AA.out 24 ?_;refine wpAnyH_done (by rw[AA.out];kernel_rfl) ?_ _;have Ab:=A0 (AI.out.trans (HB.out.mono AI.out.size));clear HB AI;go_wp2_with fail
   go_roundw
   case rel=>exact⟨k+1,by go_num,by omega,Ab⟩
   case measure=>simp[intOf];omega
  ·go_wp2_with fail
   go_ret
   exact⟨rfl,hB.out⟩
end Go.Proofs.YtkanmkcojlefbaaGreatDoor
