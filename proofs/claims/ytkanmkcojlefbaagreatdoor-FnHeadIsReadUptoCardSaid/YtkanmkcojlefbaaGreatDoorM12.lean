/-
  Part of the proof; holds the texts RNX, RNext, RNx37, Step.
-/
import Derived.Test.YtkanmkcojlefbaaGreatDoorM11
set_option maxHeartbeats 8000000
set_option maxRecDepth 100000
set_option linter.unusedSimpArgs false
set_option linter.unusedVariables false
namespace Go.Proofs.YtkanmkcojlefbaaGreatDoor
open Go.RowKit
variable {c1 c2 c3 c4 c8 c9 jO jP jQ jR jS jT jU jV c20 c21 jW jX jY jZ kA kB kC kD kE kF kG kH kI kJ kL c37 kM kO kP kQ kR kS kT kU c46 kV kW kX kY c51 lB c53 lC lD lE lF lG lH lI lJ lL lM lO lP lQ lR lS lT lU lV lW lX lY c75 lZ mA mB mC c80 mD mE mF mG c85 mH mI mJ mL mM mO mP mQ mR mS mT mU mV mW aA aB aC aD aF aG aH aI aJ aK aL aM aN aO aP aQ aR aS aT aU aV aW aX aY aZ bB bC c127 bD bE bF bG bH bI bJ bK bL bM bN bO bP bQ bR c143 bS c145 bT bU bV bW bX bY bZ cA cB cC cD cE cF cG cH cI cJ cL cM cO cP c167 c168 cQ cS c171 cT c173 cU c175 cV cW cX cY cZ dA dB dC dD dE dF dG dH dI dJ dL dM dO dP dQ dR dS dT dU dV dW dX dY:Value}
structure RdX (tr r g n c i fb fr mb:Nat) (pad:Int) (pp:Bool) (bs:List UInt8) (aE:Addr) (blk:List Value) (L:List (List UInt8×List UInt8)) (v0 w0 w:World):Prop where
 nbx:NB tr r g fb false pp false bs aE v0 w
 Rd:RD r g n c i w
 T:TR tr r pad (.iface 146 (.pointer (some ⟨fr,0,none⟩))) blk .nilIface w
 F:FRd fr r 0 w
 M:M9 w mb L.length (E0 (λ_=>none) L)
 le:w0.heap.size<=w.heap.size
 lfb:fb<w.heap.size
theorem rdX (tr r g n c i fb hb fr nb:Nat) (pad:Int) (pu pp:Bool) (AD:List Value) (bs:List UInt8) (aE:Addr) (H:Hd) (L:List (List UInt8×List UInt8)) (v0 w:World) (AA:NB tr r g fb pu pp false bs aE v0 w) (h:RD r g n c i w) (hf:FRd fr r nb w) (ht:TR tr r pad (.iface 146 (.pointer (some ⟨fr,0,none⟩))) AD .nilIface w) (hh:w.heap[hb]?=some (.cells H.cells.toArray 130 (0,0))) (Aj:v0.heap.size<=hb) (Ak:v0.heap.size<=fr)
  (AI:H.typ=120) (AH:nb<=1048576) (Af:i+nb<=n) (AG:n<4611686018427387904) (Ah:n<=c) (AR:bs.length=n) (hL: (bs.drop i).take nb=D7 L) (Ag:0<nb) (AT:A4j L)
  (Q:Exit->Act->World->Prop)
  (hQ:∀ (d1 d2 d3 d8 d9 mX mY mZ nA nB nC nD nE nF nG nH nI nJ nL nM nO nP nQ nS nT nU nV nW nX nY nZ oA oB oC oD oE oF oG oH oI oJ oK oL oM oN oO oQ oS oT oU oV oW oX oY oZ pA pB pC pD pE pF pG pH pI pJ pL pM pO pP pQ pR pS pT pU pW pX pY pZ qA qB qC qD qE qF qG qH qI qJ qL qM qO qP qQ qR qS dZ eA eC eD eH eJ eK eO eR eS eV eW eX eY eZ fA fB fC fD fE fH fI fJ fK fL fN fO fP fQ fR fS fT fU fV fW fX fY fZ gA gB gC gD gE gF gG gH gI gJ gK gL gM gN gO gP gQ gR gT gU gW gX gY gZ hJ hZ iA iB iC iD iE iF iG iH iI iJ iK iL iM iN iO iP iQ iR iS iT iU iV iW iX iY iZ jA jB jC jD jE jF jG jH jI jJ jK jL jM jN:Value) (mb:Nat) (w':World),RdX tr r g n c (i+nb) fb fr mb pad pp bs aE AD L v0 w w'->Q (.exit 1) ⟨(.pointer (some ⟨tr,0,none⟩)::d1::d2::d3::.map (some mb)::.string {data:=#[]}::.string {data:=#[]}::.pointer (some ⟨fb,0,none⟩)::d8::d9::mX::mY::mZ::nA::nB::nC::nD::nE::nF::nG::nH::nI::nJ::nL::nM::nO::nP::nQ::nS::nT::nU::nV::nW::nX::nY::nZ::oA::oB::oC::oD::oE::oF::oG::oH::oI::oJ::oK::oL::oM::oN::oO::oQ::oS::oT::oU::oV::oW::oX::oY::oZ::pA::pB::pC::pD::pE::pF::pG::pH::pI::pJ::pL::pM::pO::pP::pQ::pR::pS::pT::pU::pW::pX::pY::pZ::qA::qB::qC::qD::qE::qF::qG::qH::qI::qJ::qL::qM::qO::qP::qQ::qR::qS::dZ::eA::eC::eD::eH::eJ::eK::eO::eR::eS::eV::eW::eX::eY::eZ::fA::fB::fC::fD::fE::fH::fI::fJ::fK::fL::fN::fO::fP::fQ::fR::fS::fT::fU::fV::fW::fX::fY::fZ::gA::gB::gC::gD::gE::gF::gG::gH::gI::gJ::gK::gL::gM::gN::gO::gP::gQ::gR::gT::gU::gW::gX::gY::gZ::hJ::hZ::iA::iB::iC::iD::iE::iF::iG::iH::iI::iJ::iK::iL::iM::iN::iO::iP::iQ::iR::iS::iT::iU::iV::iW::iX::iY::iZ::jA::jB::jC::jD::jE::jF::jG::jH::jI::jJ::jK::jL::jM::jN::[]).toArray,[]⟩ w'):
  Code.wp Tryz.prog A2c Q ⟨(.pointer (some ⟨tr,0,none⟩)::c1::c2::c3::c4::.string {data:=#[]}::.string {data:=#[]}::.pointer (some ⟨fb,0,none⟩)::c8::c9::jO::.pointer (some ⟨hb,0,none⟩)::.pointer (some ⟨tr,3,none⟩)::jP::jQ::jR::jS::jT::jU::jV::c20::c21::jW::jX::jY::jZ::kA::kB::kC::kD::kE::kF::kG::kH::kI::kJ::kL::c37::kM::kO::kP::kQ::kR::kS::kT::kU::c46::kV::kW::kX::kY::c51::lB::c53::lC::lD::lE::lF::lG::lH::lI::lJ::lL::lM::lO::lP::lQ::lR::lS::lT::lU::lV::lW::lX::lY::c75::lZ::mA::mB::mC::c80::mD::mE::mF::mG::c85::mH::mI::mJ::mL::mM::mO::mP::mQ::mR::mS::mT::mU::mV::mW::aA::aB::aC::aD::aF::aG::aH::aI::aJ::aK::aL::aM::aN::aO::aP::aQ::aR::aS::aT::aU::aV::aW::aX::aY::aZ::bB::bC::c127::bD::bE::bF::bG::bH::bI::bJ::bK::bL::bM::bN::bO::bP::bQ::bR::c143::bS::c145::bT::bU::bV::bW::bX::bY::bZ::cA::cB::cC::cD::cE::cF::cG::cH::cI::cJ::cL::cM::cO::cP::c167::c168::cQ::cS::c171::cT::c173::cU::c175::cV::cW::cX::cY::cZ::dA::dB::dC::dD::dE::dF::dG::dH::dI::dJ::dL::dM::dO::dP::dQ::dR::dS::dT::dU::dV::dW::dX::dY::[]).toArray,[]⟩ w:=by
 conv=>arg 2;whnf
 have HQ:=A0 hQ;have HL:=A0 hL;have AO:=A0 AT;have AJ:=A0 AR
 have Ac:hb≠fb:=by
  rintro rfl;have:=AA.C;rw[hh] at this;injection this with this;injection this with _ t _;exact absurd t (by decide)
 have Ad:fr≠fb:=by
  rintro rfl;have:=AA.C;rw[hf] at this;injection this with this;injection this with _ t _;exact absurd t (by decide)
 have Ao:hb≠fr:=by
  rintro rfl;rw[hf] at hh;injection hh with this;injection this with _ t _;exact absurd t (by decide)
 have Aw:=AA.tl;have As:=AA.rl;have Aq:=AA.lfb;have Al:=AA.G.size;have An:=AA.gl;have Ax:=AA.zl;have Ap:=A8 AA.C;have Ae:=AA.gS;have Ai:=AA.zS;simp at Ae Ai
 have Au:r≠tr:=by
  obtain⟨p,hr⟩:=h;rintro rfl;rw[ht.1] at hr;cases hr
 have AQ:=AA.setC (pu&&false) (pp&&true) (false&&false);have c0:w.cell? ⟨hb,0,none⟩=some (.int .u8 120):=by rw[Lib.cell_of_heap hh,<-AI];rfl
 have HM:=A0 (R6 w fb pu pp false false true false AA.C);have AP:=A0 (h.off (fb:=fb) (by omega) (.int .i64 (fm (pu&&false) (pp&&true) (false&&false))));have AE:Hid (TR tr r pad (.iface 146 (.pointer (some ⟨fr,0,none⟩))) AD .nilIface (w.setCell ⟨fb,0,none⟩ (.int .i64 (fm (pu&&false) (pp&&true) (false&&false))))):=⟨NB.offC ht.1 (by omega) _,ht.2⟩;have AL:Hid (FRd fr r nb (w.setCell ⟨fb,0,none⟩ (.int .i64 (fm (pu&&false) (pp&&true) (false&&false))))):=NB.offC hf Ad _;have AM:=A0 (NB.offC hh Ac (.int .i64 (fm (pu&&false) (pp&&true) (false&&false))));have Av: (w.setCell ⟨fb,0,none⟩ (.int .i64 (fm (pu&&false) (pp&&true) (false&&false)))).heap.size=w.heap.size:=by simp[World.setCell]
 have AC:=A0 AQ;clear hQ hL AT AR AA h hf ht hh AQ;go_wp2_with fail
 refine HM.out.mono ?_;rintro e wx ⟨rfl,rfl⟩;clear HM c0;generalize w.setCell ⟨fb,0,none⟩ (.int .i64 (fm (pu&&false) (pp&&true) (false&&false)))=w1 at*;go_wp2_with fail
 refine(B2z w1 tr r g n c i nb fr pad AD bs aE L AP.out AL.out AE.out AH Af AG Ah AJ.out AC.out.S (by omega) (by simp;omega) (by simp;omega) AC.out.E (by simp;omega) HL.out Ag AO.out).mono ?_;rintro e w2 ⟨mb,rfl,Ar,AV,AU,AS,AB⟩;have AY:=A0 (AC.out.step AB (by simp;omega));have AX:=A0 (AB.cells AM.out (by simp;omega) (.inr (by decide)));have Ab:=A0 (AE.out.fr AB (by simp;omega));have c0:w2.cell? ⟨hb,0,none⟩=some (.int .u8 120):=by rw[Lib.cell_of_heap AX.out,<-AI];rfl
 have Am:=AB.size;have Aa:=A0 AV;have AZ:=A0 AU;have AW:=A0 AS;clear AC AM AE AP AL AV AU AS AB HL AO AJ AI;go_wp2_with fail
 refine HQ.out _ _ _ _ _ _ _ _ _ _ _ _ _ _ _ _ _ _ _ _ _ _ _ _ _ _ _ _ _ _ _ _ _ _ _ _ _ _ _ _ _ _ _ _ _ _ _ _ _ _ _ _ _ _ _ _ _ _ _ _ _ _ _ _ _ _ _ _ _ _ _ _ _ _ _ _ _ _ _ _ _ _ _ _ _ _ _ _ _ _ _ _ _ _ _ _ _ _ _ _ _ _ _ _ _ _ _ _ _ _ _ _ _ _ _ _ _ _ _ _ _ _ _ _ _ _ _ _ _ _ _ _ _ _ _ _ _ _ _ _ _ _ _ _ _ _ _ _ _ _ _ _ _ _ _ _ _ _ _ _ _ _ _ _ _ _ _ _ _ _ _ _ _ _ _ _ _ _ _ _ _ _ _ _ _ _ _ _ _ _ _ _ _ _ _ _ _ _ _ mb _ ⟨?_,AZ.out,Ab.out,AW.out,Aa.out,by omega,by omega⟩;have:=AY.out;simpa using this
end Go.Proofs.YtkanmkcojlefbaaGreatDoor
namespace Go.Proofs.YtkanmkcojlefbaaGreatDoor
open Go.RowKit
theorem W9 {id:Nat} {Q:Exit->Act->World->Prop} {a:Act} {w:World} (h:Q .normal a w):Exit.inBlock id Q (.exit id) a w:=by
 simp only[Exit.inBlock,if_true];exact h
def Y5 (tr r g n c i:Nat) (B:C1) (H:Hd) (R:KV) (nb:Int) (w:World) (e:Ending) (w':World):Prop:=
 ∃hb fr,e= .returned (.tuple #[.pointer (some ⟨hb,0,none⟩),.nilIface])/\w'.heap[hb]?=some (.cells H.cells.toArray 130 (0,0))/\J4 w' H.recs R w'.heap.size/\RD r g n c i w'/\TR tr r (E7 nb) (.iface 146 (.pointer (some ⟨fr,0,none⟩))) (Lib.byteCells B.bytes) .nilIface w'/\FRd fr r nb w'/\Fr w.heap.size [r,tr] w w'/\w.heap.size<=hb/\w.heap.size<=fr
theorem At.lt {w:World} {g o:Nat} {cs:List Value} (h:At w g o cs) (hc:0<cs.length):g<w.heap.size:=block_lt_of_cell (h 0 cs[0] (List.getElem?_eq_getElem hc))
theorem A6E (w:World) (tr r g n:Nat) (bs:List UInt8) (aE:Addr) (hn:0<n) (AE:bs.length=n) (AA:At w g 0 (Lib.byteCells bs)) (hE:w.cell? ⟨0,0,none⟩=some (I7 aE)) (AC:g∉[r,tr]) (AB:0∉[r,tr]) (hr:r<w.heap.size) (ht:tr<w.heap.size):
  NB tr r g w.heap.size true true true bs aE w (w.alloc (.cells #[.int .i64 14] 128)):=by
 have hb:Below w.heap.size w (w.alloc (.cells #[.int .i64 14] 128)):=(Below.refl _ _).alloc (Nat.le_refl _) _;have f:=Fr.of_below hb w.heap.size [r,tr];have AD:=AA.lt (by rw[Lib.byteCells_length];omega);exact⟨AA.frame f (Nat.le_refl _) AC,f.cell hE AB (block_lt_of_cell hE),heap_alloc_new w _,f,Nat.le_refl _,AC,AB,hr,ht,AD,block_lt_of_cell hE⟩
theorem B4y (w:World) (tr r g n c i fr:Nat) (bs:List UInt8) (AH:List Value) (aE:Addr) (B:C1) (V:RdV) (nb:Int) (hR:RdF B V) (h:RD r g n c i w) (hf:FRd fr r 0 w) (ht:TR tr r 0 (.iface 146 (.pointer (some ⟨fr,0,none⟩))) AH .nilIface w) (hi:i+512<=n) (AG:n<4611686018427387904) (AU:n<=c)
  (AE:bs.length=n) (AC:At w g 0 (Lib.byteCells bs)) (AT:g∉[r,tr]) (hB: (bs.drop i).take 512=B.bytes) (hE:w.cell? ⟨0,0,none⟩=some (I7 aE)) (AS:0∉[r,tr]) (AV:48<=J9 B/\J9 B<=55) (AB:nb=if D1 (O7 B V).typ then 0 else(O7 B V).size) (h0:0<=nb) (h1:nb<=9223372036854775807):
  Calls Tryz.prog 72 #[.pointer (some ⟨tr,0,none⟩)] w (Y5 tr r g n c (i+512) B {O7 B V with fmt:=2} (λ_=>none) nb w):=by
 have AL:r<w.heap.size:=by obtain⟨p,hr⟩:=h;exact A8 hr
 have AJ:=A6E w tr r g n bs aE (by omega) AE AC hE AT AS AL (A8 ht.1);have AD:Below w.heap.size w (w.alloc (.cells #[.int .i64 14] 128)):=(Below.refl _ _).alloc (Nat.le_refl _) _;have AM: (w.alloc (.cells #[.int .i64 14] 128)).heap.size=w.heap.size+1:=Array.size_push ..;have HN:=A0 AJ;have HR:=A0 (h.below AD);have HT:=A0 (ht.below AD);have HF:Hid (FRd fr r 0 (w.alloc (.cells #[.int .i64 14] 128))):=A0 ((AD.block fr (A8 hf)).trans hf);have HRF:=A0 hR;have HB:=A0 hB;have AO:=A0 AE;have AA:=A0 AB;have AQ:=A0 AM;clear AJ AD AM h hf ht AC hE hR hB AE AB AL;go_enter Tryz.func72,Tryz.ntmps72
 go_upto_region 3 with fail
 rename_i K1 AI;have AP:=A0 AI;clear AI;go_wp2_with fail
 refine AP.out _ _ ?_;refine wp_block ?_;refine wp_loop_once ?_;refine wp_block ?_;refine rd1 tr r g n c i 0 w.heap.size fr true true true bs aE B (O7 B V) true true false rfl nb AH w _ (B5z HRF.out) HN.out HR.out HF.out HT.out (by omega) (by omega) AG AU AO.out HB.out AA.out h0 h1 (by rw[AQ.out];omega) _ ?_;intros
 rename_i hb AW w7 h7;refine B8j tr r g n c _ w.heap.size hb _ _ _ bs aE (O7 B V) (O7 B V) (.map none) (λ_=>none) nb w w7 h7.nbx h7.R h7.T h7.H h7.hb0 ?_ AV rfl (.inl ⟨rfl,λ_=>rfl⟩) rfl rfl rfl AA.out h0 h1 _ ?_
 ·exact A7p w7 hb (O7 B V) ⟨none,none,none,none,none,none,none,none,none,none⟩ h7.H
 ·intros
  rename_i AR w9 h9;go_ret2
  exact⟨hb,AR,rfl,h9.Hh,h9.M,h9.Rd,h9.T,h9.F,h9.nbx.G,h9.hb0,h9.fr0⟩
theorem B7M (w:World) (tr r g n c i fr nx pad:Nat) (bs:List UInt8) (AT:List Value) (aE:Addr) (Bx B:C1) (Vx V:RdV) (L:List (List UInt8×List UInt8)) (P:Pax) (nb:Int) (AZ:RdF Bx Vx) (hR:RdF B V) (h:RD r g n c i w) (hf:FRd fr r 0 w) (ht:TR tr r 0 (.iface 146 (.pointer (some ⟨fr,0,none⟩))) AT .nilIface w) (hi:i+512+nx+pad+512<=n) (hp:pad<512) (Ab:E7 nx=pad) (AA:n<4611686018427387904) (AO:n<=c)
  (AM:bs.length=n) (AE:At w g 0 (Lib.byteCells bs)) (Ay:g∉[r,tr]) (AV: (bs.drop i).take 512=Bx.bytes) (hL: (bs.drop (i+512)).take nx=D7 L) (hB: (bs.drop (i+512+nx+pad)).take 512=B.bytes) (hE:w.cell? ⟨0,0,none⟩=some (I7 aE)) (Av:0∉[r,tr]) (AQ:J9 Bx=120) (Ad:Vx.size=nx) (Az:0<nx) (BA:nx<=1048576) (AP:A4j L) (Aa:MOk (E0 (λ_=>none) L) P)
  (k1:E0 (λ_=>none) L A2d=none) (k2:E0 (λ_=>none) L A2e=none) (k3:E0 (λ_=>none) L A9D=none)
  (BE:48<=J9 B/\J9 B<=55) (H2:Hd) (AW:H2=mrg (O7 B V) P (λk=>(E0 (λ_=>none) L k).isSome)) (AH:Int) (AB:AH=if D1 (O7 B V).typ then 0 else(O7 B V).size) (As:0<=AH) (Au:AH<=9223372036854775807) (AC:nb=if D1 H2.typ then 0 else H2.size) (h0:0<=nb) (h1:nb<=9223372036854775807):
  Calls Tryz.prog 72 #[.pointer (some ⟨tr,0,none⟩)] w λe w'=>∃mb,Y5 tr r g n c (i+512+nx+pad+512) B {H2 with recs:= .map (some mb),fmt:=4} (E0 (λ_=>none) L) nb w e w':=by
 have Ac:r<w.heap.size:=by obtain⟨p,hr⟩:=h;exact A8 hr
 have AY:=A6E w tr r g n bs aE (by omega) AM AE hE Ay Av Ac (A8 ht.1);have AG:Below w.heap.size w (w.alloc (.cells #[.int .i64 14] 128)):=(Below.refl _ _).alloc (Nat.le_refl _) _;have Ae: (w.alloc (.cells #[.int .i64 14] 128)).heap.size=w.heap.size+1:=Array.size_push ..
 have Aw:L.length<=4294967296:=by
  have h1:=A3m L AP;have h2: (D7 L).length<=nx:=by rw[<-hL,List.length_take];omega
  omega
 have AD: (nx:Int)=if D1 (O7 Bx Vx).typ then 0 else(O7 Bx Vx).size:=by
  show(nx:Int)=if D1 (J9 Bx) then 0 else(Vx.size:Int)
  rw[AQ,Ad];rfl
 have HN:=A0 AY;have HR:=A0 (h.below AG);have HT:=A0 (ht.below AG);have HF:Hid (FRd fr r 0 (w.alloc (.cells #[.int .i64 14] 128))):=A0 ((AG.block fr (A8 hf)).trans hf);have HRF:=A0 hR;have Al:=A0 AZ;have HB:=A0 hB;have Af:=A0 AV;have AI:=A0 AM;have AL:=A0 AC;have AJ:=A0 AB;have Am:=A0 Ae;have Ai:=A0 AD;have HL:=A0 hL;have Ah:=A0 Aa;have Aj:=A0 AP;have AR:=A0 AW;have Ak:=A0 Ab;have An:=A0 AQ;have Ao:=A0 k1;have Ap:=A0 k2;have Aq:=A0 k3;clear AY AG Ae h hf ht AE hE hR AZ hB AV AM AC AB AD Ac hL Aa AP AW Ab AQ k1 k2 k3 Ad;go_enter Tryz.func72,Tryz.ntmps72
 go_upto_region 3 with fail
 rename_i K1 AX;have Ag:=A0 AX;clear AX;go_wp2_with fail
 refine Ag.out _ _ ?_;refine wp_block ?_;refine wp_loop_rounds 2 ?_;rw[rounds_succ];refine wp_block ?_;refine rd1 tr r g n c i 0 w.heap.size fr true true true bs aE Bx (O7 Bx Vx) true true false rfl nx AT w _ (B5z Al.out) HN.out HR.out HF.out HT.out (by omega) (by omega) AA AO AI.out Af.out Ai.out (by omega) (by omega) (by rw[Am.out];omega) _ ?_;intros
 rename_i Ax AU wx hx;refine rdX tr r g n c _ w.heap.size Ax AU nx _ true true _ bs aE (O7 Bx Vx) L w wx hx.nbx hx.R hx.F hx.T hx.H hx.hb0 hx.fr0 An.out BA (by omega) AA AO AI.out HL.out Az Aj.out _ ?_;intros
 rename_i mb wy hy;refine W9 ?_;show Code.rounds _ _ _ 1 _ _
 rw[rounds_succ];refine wp_block ?_;have AS:=A0 hy.T;rw[Ak.out] at AS;refine rd1 tr r g n c (i+512+nx) pad w.heap.size AU false true false bs aE B (O7 B V) true true false rfl AH _ w wy (B5z HRF.out) hy.nbx hy.Rd hy.F AS.out (by omega) hp AA AO AI.out HB.out AJ.out As Au hy.lfb _ ?_;intros
 rename_i hb BF w7 h7
 have BC:J4 w7 (.map (some mb)) (E0 (λ_=>none) L) w7.heap.size:=by
  have h0:J4 wy (.map (some mb)) (E0 (λ_=>none) L) wy.heap.size:= .inr ⟨mb,L.length,rfl,hy.M.lt,hy.M,Aw⟩;refine h0.fr h7.fw (λq hq es cl e=> ?_);simp at hq;rcases hq with rfl|rfl|rfl
  ·obtain⟨p,hr⟩:=hy.Rd;rw[hr] at e;cases e
  ·rw[hy.T.1] at e;cases e
  ·rw[hy.nbx.C] at e;cases e
 have BD:M9 w7 mb L.length (E0 (λ_=>none) L):=by
  refine hy.M.fr h7.fw (λhm=> ?_);obtain⟨D,⟨es,cl,e,_⟩,_⟩:=hy.M;simp at hm;rcases hm with rfl|rfl|rfl
  ·obtain⟨p,hr⟩:=hy.Rd;rw[hr] at e;cases e
  ·rw[hy.T.1] at e;cases e
  ·rw[hy.nbx.C] at e;cases e
 refine B8i tr r g n c _ w.heap.size hb _ _ _ bs aE (O7 B V) {H2 with recs:= .map (some mb)} (.map (some mb)) (E0 (λ_=>none) L) nb w w7 h7.nbx h7.R h7.T h7.H h7.hb0 ?_ BE ?_ BC Ao.out Ap.out Aq.out AL.out h0 h1 _ ?_
 ·rw[AR.out]
  exact B2n w7 hb mb L.length (O7 B V) _ P h7.H BD Ah.out
 ·show H2.typ=_
  rw[AR.out];rfl
 ·intros
  rename_i Ar w9 h9;go_ret2
  exact⟨mb,hb,Ar,rfl,h9.Hh,h9.M,h9.Rd,h9.T,h9.F,h9.nbx.G,h9.hb0,h9.fr0⟩
theorem B5k (w:World) (tr r g n c i:Nat) (pad:Int) (AD:Value) (AH:List Value) (B:C1) (Hf:Nat->Hd) (R:KV) (nb:Int) (ht:TR tr r pad AD AH .nilIface w) (hC:Calls Tryz.prog 72 #[.pointer (some ⟨tr,0,none⟩)] w λe w'=>∃mb,Y5 tr r g n c i B (Hf mb) R nb w e w'):
  Calls Tryz.prog 37 #[.pointer (some ⟨tr,0,none⟩)] w λe w'=>∃mb,Y5 tr r g n c i B (Hf mb) R nb w e w':=by
 have HC:=A0 hC;obtain⟨c0,c1,c2,kZ,z1,z2,AE⟩:=O4 ht.2 ht.1;have AO:=A8 ht.1;clear hC c0 c1 c2 z1 z2 AE ht;go_enter Tryz.func37,Tryz.ntmps37
 go_wp2_with fail
 refine HC.out.mono ?_;rintro e w1 ⟨mb,hb,fr,rfl,k1,k2,k3,k4,k5,k6,k7,k8⟩;obtain⟨d0,d1,d2,oR,y1,y2,AL⟩:=O4 k4.2 k4.1;have hs:=B6 (i:=515) (.nilIface:Value) k4.1;have AI:tr≠hb:=by omega
 have AJ:tr≠fr:=by omega
 have AA:Fr w1.heap.size [tr] w1 (w1.setCell ⟨tr,515,none⟩ .nilIface):=(Fr.refl _ _ w1).setCell (p:=⟨tr,515,none⟩) (.inl (by simp)) _
 have AG:r≠tr:=by
  obtain⟨p,hr⟩:=k3;rintro rfl;rw[k4.1] at hr;cases hr
 have AB:Y5 tr r g n c i B (Hf mb) R nb w (.returned (.tuple #[.pointer (some ⟨hb,0,none⟩),.nilIface])) (w1.setCell ⟨tr,515,none⟩ .nilIface):=by
  refine⟨hb,fr,rfl,AA.cells k1 (by simp;omega) (.inr (by decide)),k2.fr AA (λq hq es cl e=>by obtain rfl:=List.mem_singleton.1 hq;rw[k4.1] at e;cases e),k3.fr AA (by simpa using AG),⟨?_,k4.2⟩,AA.cells k5 (by simp;omega) (.inr (by decide)),k6.thn AA k6.size (by simp),k7,k8⟩;rw[hs];congr 2
  apply Array.ext_getElem?;intro q;rw[Array.getElem?_setIfInBounds];split
  ·rename_i e
   subst e;have:=A5I (.iface 84 (.pointer (some ⟨r,0,none⟩))) (.int .i64 (E7 nb)) (.iface 146 (.pointer (some ⟨fr,0,none⟩))) (.nilIface) (Lib.byteCells B.bytes) k4.2;split
   ·exact this.symm
   ·rename_i AM
    exfalso
    have h2:=Array.getElem?_eq_none (xs:=N8 (.iface 84 (.pointer (some ⟨r,0,none⟩))) (.int .i64 (E7 nb)) (.iface 146 (.pointer (some ⟨fr,0,none⟩))) (Lib.byteCells B.bytes) .nilIface) (i:=515) (by omega);rw[h2] at this;cases this
  ·rfl
 have AC:=A0 AB;clear hs AA AG AB k1 k2 k3 k4 k5 k6 k7 k8 d0 d1 d2 y1 y2 AI AJ;go_wp2_with fail
 go_ret2
 exact⟨mb,AC.out⟩
structure TB (tw b fw:Nat) (pad:Int) (hdr:List Value) (fb:Nat) (ferr:Value) (aE:Addr) (B:C1) (w:World):Prop where
 W:TW tw b fw pad hdr (Lib.byteCells B.bytes) .nilIface w
 ok:B.Ok
 F:w.heap[fb]?=some (.cells #[ferr] 196 (0,0))
 db:w.cell? ⟨15,7,none⟩=some (.int .u8 3)
 e3:w.cell? ⟨3,0,none⟩=some (I7 aE)
 tw15:tw≠15
 tw3:tw≠3
 f15:fb≠15
 f3:fb≠3
def A3S (b fw:Nat) (pad:Int) (hdr:List Value):List Value:= .iface 75 (.pointer (some ⟨b,0,none⟩))::.int .i64 pad::.iface 119 (.pointer (some ⟨fw,0,none⟩))::hdr
theorem TB.pre {tw b fw:Nat} {pad:Int} {hdr:List Value} {fb:Nat} {ferr:Value} {aE:Addr} {B:C1} {w:World} (h:TB tw b fw pad hdr fb ferr aE B w): (A3S b fw pad hdr).length=23:=by simp[A3S,h.W.2.1]
theorem TB.seg {tw b fw:Nat} {pad:Int} {hdr:List Value} {fb:Nat} {ferr:Value} {aE:Addr} {B:C1} {w:World} (h:TB tw b fw pad hdr fb ferr aE B w):E4 w tw 134 (A3S b fw pad hdr) B.bytes [.nilIface]:=h.W.seg
theorem TB.ne {tw b fw:Nat} {pad:Int} {hdr:List Value} {fb:Nat} {ferr:Value} {aE:Addr} {B:C1} {w:World} (h:TB tw b fw pad hdr fb ferr aE B w):fb≠tw:=by
 rintro rfl;have:=h.F;rw[h.W.1] at this;cases this
theorem TB.next {tw b fw:Nat} {pad:Int} {hdr:List Value} {fb:Nat} {ferr ferr2:Value} {aE:Addr} {B B2:C1} {w w':World} (h:TB tw b fw pad hdr fb ferr aE B w) (hs:E4 w' tw 134 (A3S b fw pad hdr) B2.bytes [.nilIface]) (ok:B2.Ok) (hf:w'.heap[fb]?=some (.cells #[ferr2] 196 (0,0))) (hF:Fr w.heap.size [tw,fb] w w'):
  TB tw b fw pad hdr fb ferr2 aE B2 w':=
 ⟨TW.of_seg hs h.W.2.1 ok.len,ok,hf,hF.cell h.db (by simp[Ne.symm h.tw15,Ne.symm h.f15]) (block_lt_of_cell h.db),hF.cell h.e3 (by simp[Ne.symm h.tw3,Ne.symm h.f3]) (block_lt_of_cell h.e3),h.tw15,h.tw3,h.f15,h.f3⟩
section
variable {tw b fw:Nat} {pad:Int} {hdr:List Value} {fb:Nat} {ferr:Value} {aE:Addr} {B:C1} {w:World}
theorem Y4 (h:TB tw b fw pad hdr fb ferr aE B w) (s:List UInt8) (hl:s.length<=1048576):
  Calls Tryz.prog 129 #[.pointer (some ⟨fb,0,none⟩),.slice (some ⟨tw,23,none⟩) 100 512,str s] w λe w'=>e= .returned (.tuple #[])/\∃AA ferr2,V9 B.name s AA/\(s.length<=100->ferr2=ferr)/\TB tw b fw pad hdr fb ferr2 aE {B with name:=AA} w'/\Fr w.heap.size [tw,fb] w w':=by
 have hp:=h.pre;have k:=R5 w fb tw 100 512 s 134 _ _ _ ferr aE h.seg.get_name h.ok.name (by omega) (by omega) (by omega) hl h.F h.ne h.e3;rw[h.ok.off_name,hp] at k;refine k.mono ?_;rintro e w' ⟨rfl,AA,ferr2,k1,k2,k3,k4,k5⟩;exact⟨rfl,AA,ferr2,k1,k2,h.next k3.put_name (h.ok.put_name AA (k1.len.trans h.ok.name)) k4 k5,k5⟩
theorem A0Z (h:TB tw b fw pad hdr fb ferr aE B w) (s:List UInt8) (hl:s.length<=1048576):
  Calls Tryz.prog 129 #[.pointer (some ⟨fb,0,none⟩),.slice (some ⟨tw,180,none⟩) 100 355,str s] w λe w'=>e= .returned (.tuple #[])/\∃AA ferr2,V9 B.link s AA/\(s.length<=100->ferr2=ferr)/\TB tw b fw pad hdr fb ferr2 aE {B with link:=AA} w'/\Fr w.heap.size [tw,fb] w w':=by
 have hp:=h.pre;have k:=R5 w fb tw 100 355 s 134 _ _ _ ferr aE h.seg.get_link h.ok.link (by omega) (by omega) (by omega) hl h.F h.ne h.e3;rw[h.ok.off_link,hp] at k;refine k.mono ?_;rintro e w' ⟨rfl,AA,ferr2,k1,k2,k3,k4,k5⟩;exact⟨rfl,AA,ferr2,k1,k2,h.next k3.put_link (h.ok.put_link AA (k1.len.trans h.ok.link)) k4 k5,k5⟩
theorem A0a (h:TB tw b fw pad hdr fb ferr aE B w) (s:List UInt8) (hl:s.length<=1048576):
  Calls Tryz.prog 129 #[.pointer (some ⟨fb,0,none⟩),.slice (some ⟨tw,288,none⟩) 32 247,str s] w λe w'=>e= .returned (.tuple #[])/\∃AA ferr2,V9 B.user s AA/\(s.length<=32->ferr2=ferr)/\TB tw b fw pad hdr fb ferr2 aE {B with user:=AA} w'/\Fr w.heap.size [tw,fb] w w':=by
 have hp:=h.pre;have k:=R5 w fb tw 32 247 s 134 _ _ _ ferr aE h.seg.get_user h.ok.user (by omega) (by omega) (by omega) hl h.F h.ne h.e3;rw[h.ok.off_user,hp] at k;refine k.mono ?_;rintro e w' ⟨rfl,AA,ferr2,k1,k2,k3,k4,k5⟩;exact⟨rfl,AA,ferr2,k1,k2,h.next k3.put_user (h.ok.put_user AA (k1.len.trans h.ok.user)) k4 k5,k5⟩
theorem Z7 (h:TB tw b fw pad hdr fb ferr aE B w) (s:List UInt8) (hl:s.length<=1048576):
  Calls Tryz.prog 129 #[.pointer (some ⟨fb,0,none⟩),.slice (some ⟨tw,320,none⟩) 32 215,str s] w λe w'=>e= .returned (.tuple #[])/\∃AA ferr2,V9 B.group s AA/\(s.length<=32->ferr2=ferr)/\TB tw b fw pad hdr fb ferr2 aE {B with group:=AA} w'/\Fr w.heap.size [tw,fb] w w':=by
 have hp:=h.pre;have k:=R5 w fb tw 32 215 s 134 _ _ _ ferr aE h.seg.get_group h.ok.group (by omega) (by omega) (by omega) hl h.F h.ne h.e3;rw[h.ok.off_group,hp] at k;refine k.mono ?_;rintro e w' ⟨rfl,AA,ferr2,k1,k2,k3,k4,k5⟩;exact⟨rfl,AA,ferr2,k1,k2,h.next k3.put_group (h.ok.put_group AA (k1.len.trans h.ok.group)) k4 k5,k5⟩
theorem A0X (h:TB tw b fw pad hdr fb ferr aE B w) (x:Int) (AA: -9223372036854775808<=x) (AB:x<=9223372036854775807):
  Calls Tryz.prog 130 #[.pointer (some ⟨fb,0,none⟩),.slice (some ⟨tw,123,none⟩) 8 412,.int .i64 x] w λe w'=>e= .returned (.tuple #[])/\∃ferr2,(B8 8 x=true->ferr2=ferr)/\TB tw b fw pad hdr fb ferr2 aE {B with mode:=C2 8 (if B8 8 x then x.toNat else 0)} w'/\Fr w.heap.size [tw,fb] w w':=by
 have hp:=h.pre;have k:=N0 w fb tw 8 412 x 134 _ _ _ ferr aE h.seg.get_mode h.ok.mode (by omega) (by omega) AA AB h.tw15 h.db h.F h.ne h.f15 h.e3;rw[h.ok.off_mode,hp] at k;refine k.mono ?_;rintro e w' ⟨rfl,ferr2,k2,k3,k4,k5⟩;refine⟨rfl,ferr2,k2,h.next k3.put_mode (h.ok.put_mode _ (D2 _ _ (by omega) ?_)) k4 k5,k5⟩;split
 ·rename_i hf
  simp only[B8,decide_eq_true_eq] at hf;omega
 ·omega
theorem A1D (h:TB tw b fw pad hdr fb ferr aE B w) (x:Int) (AA: -9223372036854775808<=x) (AB:x<=9223372036854775807):
  Calls Tryz.prog 130 #[.pointer (some ⟨fb,0,none⟩),.slice (some ⟨tw,131,none⟩) 8 404,.int .i64 x] w λe w'=>e= .returned (.tuple #[])/\∃ferr2,(B8 8 x=true->ferr2=ferr)/\TB tw b fw pad hdr fb ferr2 aE {B with uid:=C2 8 (if B8 8 x then x.toNat else 0)} w'/\Fr w.heap.size [tw,fb] w w':=by
 have hp:=h.pre;have k:=N0 w fb tw 8 404 x 134 _ _ _ ferr aE h.seg.get_uid h.ok.uid (by omega) (by omega) AA AB h.tw15 h.db h.F h.ne h.f15 h.e3;rw[h.ok.off_uid,hp] at k;refine k.mono ?_;rintro e w' ⟨rfl,ferr2,k2,k3,k4,k5⟩;refine⟨rfl,ferr2,k2,h.next k3.put_uid (h.ok.put_uid _ (D2 _ _ (by omega) ?_)) k4 k5,k5⟩;split
 ·rename_i hf
  simp only[B8,decide_eq_true_eq] at hf;omega
 ·omega
theorem A1C (h:TB tw b fw pad hdr fb ferr aE B w) (x:Int) (AA: -9223372036854775808<=x) (AB:x<=9223372036854775807):
  Calls Tryz.prog 130 #[.pointer (some ⟨fb,0,none⟩),.slice (some ⟨tw,139,none⟩) 8 396,.int .i64 x] w λe w'=>e= .returned (.tuple #[])/\∃ferr2,(B8 8 x=true->ferr2=ferr)/\TB tw b fw pad hdr fb ferr2 aE {B with gid:=C2 8 (if B8 8 x then x.toNat else 0)} w'/\Fr w.heap.size [tw,fb] w w':=by
 have hp:=h.pre;have k:=N0 w fb tw 8 396 x 134 _ _ _ ferr aE h.seg.get_gid h.ok.gid (by omega) (by omega) AA AB h.tw15 h.db h.F h.ne h.f15 h.e3;rw[h.ok.off_gid,hp] at k;refine k.mono ?_;rintro e w' ⟨rfl,ferr2,k2,k3,k4,k5⟩;refine⟨rfl,ferr2,k2,h.next k3.put_gid (h.ok.put_gid _ (D2 _ _ (by omega) ?_)) k4 k5,k5⟩;split
 ·rename_i hf
  simp only[B8,decide_eq_true_eq] at hf;omega
 ·omega
theorem A0Y (h:TB tw b fw pad hdr fb ferr aE B w) (x:Int) (AA: -9223372036854775808<=x) (AB:x<=9223372036854775807):
  Calls Tryz.prog 130 #[.pointer (some ⟨fb,0,none⟩),.slice (some ⟨tw,147,none⟩) 12 388,.int .i64 x] w λe w'=>e= .returned (.tuple #[])/\∃ferr2,(B8 12 x=true->ferr2=ferr)/\TB tw b fw pad hdr fb ferr2 aE {B with size:=C2 12 (if B8 12 x then x.toNat else 0)} w'/\Fr w.heap.size [tw,fb] w w':=by
 have hp:=h.pre;have k:=N0 w fb tw 12 388 x 134 _ _ _ ferr aE h.seg.get_size h.ok.size (by omega) (by omega) AA AB h.tw15 h.db h.F h.ne h.f15 h.e3;rw[h.ok.off_size,hp] at k;refine k.mono ?_;rintro e w' ⟨rfl,ferr2,k2,k3,k4,k5⟩;refine⟨rfl,ferr2,k2,h.next k3.put_size (h.ok.put_size _ (D2 _ _ (by omega) ?_)) k4 k5,k5⟩;split
 ·rename_i hf
  simp only[B8,decide_eq_true_eq] at hf;omega
 ·omega
theorem Z6 (h:TB tw b fw pad hdr fb ferr aE B w) (x:Int) (AA: -9223372036854775808<=x) (AB:x<=9223372036854775807):
  Calls Tryz.prog 130 #[.pointer (some ⟨fb,0,none⟩),.slice (some ⟨tw,159,none⟩) 12 376,.int .i64 x] w λe w'=>e= .returned (.tuple #[])/\∃ferr2,(B8 12 x=true->ferr2=ferr)/\TB tw b fw pad hdr fb ferr2 aE {B with mtime:=C2 12 (if B8 12 x then x.toNat else 0)} w'/\Fr w.heap.size [tw,fb] w w':=by
 have hp:=h.pre;have k:=N0 w fb tw 12 376 x 134 _ _ _ ferr aE h.seg.get_mtime h.ok.mtime (by omega) (by omega) AA AB h.tw15 h.db h.F h.ne h.f15 h.e3;rw[h.ok.off_mtime,hp] at k;refine k.mono ?_;rintro e w' ⟨rfl,ferr2,k2,k3,k4,k5⟩;refine⟨rfl,ferr2,k2,h.next k3.put_mtime (h.ok.put_mtime _ (D2 _ _ (by omega) ?_)) k4 k5,k5⟩;split
 ·rename_i hf
  simp only[B8,decide_eq_true_eq] at hf;omega
 ·omega
theorem A2L (h:TB tw b fw pad hdr fb ferr aE B w) (x:Int) (AA: -9223372036854775808<=x) (AB:x<=9223372036854775807):
  Calls Tryz.prog 130 #[.pointer (some ⟨fb,0,none⟩),.slice (some ⟨tw,352,none⟩) 8 183,.int .i64 x] w λe w'=>e= .returned (.tuple #[])/\∃ferr2,(B8 8 x=true->ferr2=ferr)/\TB tw b fw pad hdr fb ferr2 aE {B with maj:=C2 8 (if B8 8 x then x.toNat else 0)} w'/\Fr w.heap.size [tw,fb] w w':=by
 have hp:=h.pre;have k:=N0 w fb tw 8 183 x 134 _ _ _ ferr aE h.seg.get_maj h.ok.maj (by omega) (by omega) AA AB h.tw15 h.db h.F h.ne h.f15 h.e3;rw[h.ok.off_maj,hp] at k;refine k.mono ?_;rintro e w' ⟨rfl,ferr2,k2,k3,k4,k5⟩;refine⟨rfl,ferr2,k2,h.next k3.put_maj (h.ok.put_maj _ (D2 _ _ (by omega) ?_)) k4 k5,k5⟩;split
 ·rename_i hf
  simp only[B8,decide_eq_true_eq] at hf;omega
 ·omega
theorem A2M (h:TB tw b fw pad hdr fb ferr aE B w) (x:Int) (AA: -9223372036854775808<=x) (AB:x<=9223372036854775807):
  Calls Tryz.prog 130 #[.pointer (some ⟨fb,0,none⟩),.slice (some ⟨tw,360,none⟩) 8 175,.int .i64 x] w λe w'=>e= .returned (.tuple #[])/\∃ferr2,(B8 8 x=true->ferr2=ferr)/\TB tw b fw pad hdr fb ferr2 aE {B with mnr:=C2 8 (if B8 8 x then x.toNat else 0)} w'/\Fr w.heap.size [tw,fb] w w':=by
 have hp:=h.pre;have k:=N0 w fb tw 8 175 x 134 _ _ _ ferr aE h.seg.get_mnr h.ok.mnr (by omega) (by omega) AA AB h.tw15 h.db h.F h.ne h.f15 h.e3;rw[h.ok.off_mnr,hp] at k;refine k.mono ?_;rintro e w' ⟨rfl,ferr2,k2,k3,k4,k5⟩;refine⟨rfl,ferr2,k2,h.next k3.put_mnr (h.ok.put_mnr _ (D2 _ _ (by omega) ?_)) k4 k5,k5⟩;split
 ·rename_i hf
  simp only[B8,decide_eq_true_eq] at hf;omega
 ·omega
end
end Go.Proofs.YtkanmkcojlefbaaGreatDoor
