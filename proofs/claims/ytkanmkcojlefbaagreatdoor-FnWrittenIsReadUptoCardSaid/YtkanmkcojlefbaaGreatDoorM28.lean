/-
  Part of the proof; holds the texts RH1, RH0, RNb, RNT.
-/
import Derived.Test.YtkanmkcojlefbaaGreatDoorM27
set_option maxHeartbeats 8000000
set_option maxRecDepth 100000
set_option linter.unusedSimpArgs false
set_option linter.unusedVariables false
namespace Go.Proofs.YtkanmkcojlefbaaGreatDoor
open Go.RowKit
theorem rh1 (tr r:Nat) (AG:Int) (AB AE:Value) (B:C1) (V:RdV) (pb hb:Nat) (v0 u0:World) (hR:RdF B V) (h:Z9 tr r AG AB AE B pb hb Hd.nil v0 u0)
  (R:Ending->World->Prop) (hK:∀w',Z9 tr r AG AB AE B pb hb (O7 B V) v0 w'->R (.returned (.tuple #[.pointer (some ⟨hb,0,none⟩),.pointer (some ⟨tr,3,none⟩),.nilIface])) w') {c1 c2 c3 c4 c5 c6 c7 c8 vS jP jQ jR jS jT jU jO c20 c21 jV jW jX jY jZ kA kB kC kD kE kF kG kH kI kJ c37 kL kM kO kP kQ kR kS kT c46 kU kV kW kX c51 kY c53 kZ lA lB lC lD lE lF lG lH lI lJ lL lM lO lP lQ lR lS lT lU lV c75 lW lX lY lZ c80 mA mB mC mD c85 mE mF mG mH mI mJ mL mM mO mP mQ mR mS mT aA aB aD aF aG aH aI aJ aK aL aM aN aO aP aQ aR aS aT aU aV aW aX aY aZ bA bB bC c127 bD bE bF bG bH bI bJ bK bL bM bN bO bP bQ bR c143 bS c145 bT bU bV bW bX bY bZ cA cB cC cD cE cF cG cH cI cJ cL cM cO cP c167 c168 cQ cS c171 cT c173 cU c175 cV cW cX cY cZ dA dB dC dD dE dF dG dH dI dJ dL dM dO dP dQ dR dS dT dU dV dW dX dY mU mV mW mX mY mZ c210 nA c212 c213 nB nC nD nE nF nG nH nI nJ nL nM nO nP nQ nS nT nU nV c232 c233 nW nX nY nZ oA oB oC oD oE oF oG oH oI oJ oK oL oM oN oO oQ oR oS oT oU oV oW oX oY oZ pA pB pC pD pE pF pG pH pI pJ pL pM pO pP pQ pR pS pT pU pW pX pY pZ qA qB qC qD qE qF qG qH qI qJ qL qM qO qP qQ qR qS qT qU qV qW qX qY qZ rA rB rC rD rE rF rG rH rI rJ rK rL rM rN rO rP rQ rR rS rT rU rV rW rX rY:Value}:
  Code.wp Tryz.prog B3H (bodyPost Tryz.prog Tryz.f148 R) ⟨(.pointer (some ⟨tr,0,none⟩)::c1::c2::c3::c4::c5::c6::c7::c8::.int .i64 6::.pointer (some ⟨pb,0,none⟩)::.pointer (some ⟨hb,0,none⟩)::vS::jP::jQ::jR::jS::jT::jU::jO::c20::c21::jV::jW::jX::jY::jZ::kA::kB::kC::kD::kE::kF::kG::kH::kI::kJ::c37::kL::kM::kO::kP::kQ::kR::kS::kT::c46::kU::kV::kW::kX::c51::kY::c53::kZ::lA::lB::lC::lD::lE::lF::lG::lH::lI::lJ::lL::lM::lO::lP::lQ::lR::lS::lT::lU::lV::c75::lW::lX::lY::lZ::c80::mA::mB::mC::mD::c85::mE::mF::mG::mH::mI::mJ::mL::mM::mO::mP::mQ::mR::mS::mT::aA::aB::aD::aF::aG::aH::aI::aJ::aK::aL::aM::aN::aO::aP::aQ::aR::aS::aT::aU::aV::aW::aX::aY::aZ::bA::bB::bC::c127::bD::bE::bF::bG::bH::bI::bJ::bK::bL::bM::bN::bO::bP::bQ::bR::c143::bS::c145::bT::bU::bV::bW::bX::bY::bZ::cA::cB::cC::cD::cE::cF::cG::cH::cI::cJ::cL::cM::cO::cP::c167::c168::cQ::cS::c171::cT::c173::cU::c175::cV::cW::cX::cY::cZ::dA::dB::dC::dD::dE::dF::dG::dH::dI::dJ::dL::dM::dO::dP::dQ::dR::dS::dT::dU::dV::dW::dX::dY::mU::mV::mW::mX::mY::mZ::c210::nA::c212::c213::nB::nC::nD::nE::nF::nG::nH::nI::nJ::nL::nM::nO::nP::nQ::nS::nT::nU::nV::c232::c233::nW::nX::nY::nZ::oA::oB::oC::oD::oE::oF::oG::oH::oI::oJ::oK::oL::oM::oN::oO::oQ::oR::oS::oT::oU::oV::oW::oX::oY::oZ::pA::pB::pC::pD::pE::pF::pG::pH::pI::pJ::pL::pM::pO::pP::pQ::pR::pS::pT::pU::pW::pX::pY::pZ::qA::qB::qC::qD::qE::qF::qG::qH::qI::qJ::qL::qM::qO::qP::qQ::qR::qS::qT::qU::qV::qW::qX::qY::qZ::rA::rB::rC::rD::rE::rF::rG::rH::rI::rJ::rK::rL::rM::rN::rO::rP::rQ::rR::rS::rT::rU::rV::rW::rX::rY::[]).toArray,[]⟩ u0:=by
 conv=>arg 2;whnf
 have HS:=A0 h;have HR:=A0 hR;have HK:=A0 hK;have vu:=A0 A5Z;have AL:=A0 A3t;have va:=A0 A0q;have vb:=A0 A1a;have vc:=A0 A0G;have vd:=A0 A0F;have ve:=A0 A1g;have vf:=A0 A1f;have vg:=A0 V8;clear h hR hK;go_wp2_with fail
 refine(vu.out _ _).mono ?_;rintro e wx ⟨rfl,rfl⟩;go_wp2_with fail
 refine(AL.out _ _ _).mono ?_;rintro e wx ⟨rfl,rfl⟩;have z:=HS.out.hz 0;have hc:=HS.out.hc 0 _ rfl;have ht:=W7 (At.get_typ HR.out.ok HS.out.at) 0 (by rw[HR.out.ok.typ];omega);rw[List.getD_eq_getElem?_getD] at ht;go_wp2_with fail
 have AA:Hid (Z9 tr r AG AB AE B pb hb ({Hd.nil with typ:=J9 B}:Hd) v0 (u0.setCell ⟨hb,0,none⟩ (.int .u8 (B.typ[0]?.getD 0).toNat))):=A0 (HS.out.set 0 _ _ rfl);clear HS z hc ht;have HS:=AA;clear AA;generalize (u0.setCell ⟨hb,0,none⟩ (.int .u8 (B.typ[0]?.getD 0).toNat))=u1 at*;refine(va.out _ _ _).mono ?_;rintro e wx ⟨rfl,rfl⟩;have AC:=A0 (L4 u1 (.pointer (some ⟨pb,0,none⟩)) tr 3 100 512 _ (At.get_name HR.out.ok HS.out.at) HR.out.ok.name (by omega));have z:=HS.out.hz 1;have hc:=HS.out.hc 1 _ rfl;go_wp2_with fail
 refine AC.out.mono ?_;rintro e wx ⟨rfl,rfl⟩;go_wp2_with fail
 have AA:Hid (Z9 tr r AG AB AE B pb hb ({Hd.nil with typ:=J9 B,name:=D4 B.name}:Hd) v0 (u1.setCell ⟨hb,1,none⟩ (str (D4 B.name)))):=A0 (HS.out.set 1 _ _ rfl);clear AC HS z hc;have HS:=AA;clear AA;generalize (u1.setCell ⟨hb,1,none⟩ (str (D4 B.name)))=u2 at*;refine(vb.out _ _ _).mono ?_;rintro e wx ⟨rfl,rfl⟩;have AC:=A0 (L4 u2 (.pointer (some ⟨pb,0,none⟩)) tr 160 100 355 _ (At.get_link HR.out.ok HS.out.at) HR.out.ok.link (by omega));have z:=HS.out.hz 2;have hc:=HS.out.hc 2 _ rfl;go_wp2_with fail
 refine AC.out.mono ?_;rintro e wx ⟨rfl,rfl⟩;go_wp2_with fail
 have AA:Hid (Z9 tr r AG AB AE B pb hb ({Hd.nil with typ:=J9 B,name:=D4 B.name,link:=D4 B.link}:Hd) v0 (u2.setCell ⟨hb,2,none⟩ (str (D4 B.link)))):=A0 (HS.out.set 2 _ _ rfl);clear AC HS z hc;have HS:=AA;clear AA;generalize (u2.setCell ⟨hb,2,none⟩ (str (D4 B.link)))=u3 at*;refine(vc.out _ _ _).mono ?_;rintro e wx ⟨rfl,rfl⟩;have AC:=A0 (N7 u3 (.pointer (some ⟨pb,0,none⟩)) tr 127 12 388 _ _ HR.out.size (At.get_size HR.out.ok HS.out.at) HR.out.ok.size (by omega) (by omega) (by omega));go_wp2_with fail
 refine AC.out.mono ?_;rintro e q ⟨rfl,AD⟩;have HQ:=A0 (HS.out.below AD);clear AD HS;have HS:=HQ;clear HQ;have z:=HS.out.hz 3;have hc:=HS.out.hc 3 _ rfl;go_wp2_with fail
 have AA:Hid (Z9 tr r AG AB AE B pb hb ({Hd.nil with typ:=J9 B,name:=D4 B.name,link:=D4 B.link,size:=V.size}:Hd) v0 (q.setCell ⟨hb,3,none⟩ (.int .i64 V.size))):=A0 (HS.out.set 3 _ _ rfl);clear AC HS z hc;have HS:=AA;clear AA;generalize (q.setCell ⟨hb,3,none⟩ (.int .i64 V.size))=u4 at*;refine(vd.out _ _ _).mono ?_;rintro e wx ⟨rfl,rfl⟩;have AC:=A0 (N7 u4 (.pointer (some ⟨pb,0,none⟩)) tr 103 8 412 _ _ HR.out.mode (At.get_mode HR.out.ok HS.out.at) HR.out.ok.mode (by omega) (by omega) (by omega));go_wp2_with fail
 refine AC.out.mono ?_;rintro e q ⟨rfl,AD⟩;have HQ:=A0 (HS.out.below AD);clear AD HS;have HS:=HQ;clear HQ;have z:=HS.out.hz 4;have hc:=HS.out.hc 4 _ rfl;go_wp2_with fail
 have AA:Hid (Z9 tr r AG AB AE B pb hb ({Hd.nil with typ:=J9 B,name:=D4 B.name,link:=D4 B.link,size:=V.size,mode:=V.mode}:Hd) v0 (q.setCell ⟨hb,4,none⟩ (.int .i64 V.mode))):=A0 (HS.out.set 4 _ _ rfl);clear AC HS z hc;have HS:=AA;clear AA;generalize (q.setCell ⟨hb,4,none⟩ (.int .i64 V.mode))=u5 at*;refine(ve.out _ _ _).mono ?_;rintro e wx ⟨rfl,rfl⟩;have AC:=A0 (N7 u5 (.pointer (some ⟨pb,0,none⟩)) tr 111 8 404 _ _ HR.out.uid (At.get_uid HR.out.ok HS.out.at) HR.out.ok.uid (by omega) (by omega) (by omega));go_wp2_with fail
 refine AC.out.mono ?_;rintro e q ⟨rfl,AD⟩;have HQ:=A0 (HS.out.below AD);clear AD HS;have HS:=HQ;clear HQ;have z:=HS.out.hz 5;have hc:=HS.out.hc 5 _ rfl;go_wp2_with fail
 have AA:Hid (Z9 tr r AG AB AE B pb hb ({Hd.nil with typ:=J9 B,name:=D4 B.name,link:=D4 B.link,size:=V.size,mode:=V.mode,uid:=V.uid}:Hd) v0 (q.setCell ⟨hb,5,none⟩ (.int .i64 V.uid))):=A0 (HS.out.set 5 _ _ rfl);clear AC HS z hc;have HS:=AA;clear AA;generalize (q.setCell ⟨hb,5,none⟩ (.int .i64 V.uid))=u6 at*;refine(vf.out _ _ _).mono ?_;rintro e wx ⟨rfl,rfl⟩;have AC:=A0 (N7 u6 (.pointer (some ⟨pb,0,none⟩)) tr 119 8 396 _ _ HR.out.gid (At.get_gid HR.out.ok HS.out.at) HR.out.ok.gid (by omega) (by omega) (by omega));go_wp2_with fail
 refine AC.out.mono ?_;rintro e q ⟨rfl,AD⟩;have HQ:=A0 (HS.out.below AD);clear AD HS;have HS:=HQ;clear HQ;have z:=HS.out.hz 6;have hc:=HS.out.hc 6 _ rfl;go_upto_region 24 with fail
 rename_i K1 AH;have AI:=A0 AH;clear AH;have AA:Hid (Z9 tr r AG AB AE B pb hb ({Hd.nil with typ:=J9 B,name:=D4 B.name,link:=D4 B.link,size:=V.size,mode:=V.mode,uid:=V.uid,gid:=V.gid}:Hd) v0 (q.setCell ⟨hb,6,none⟩ (.int .i64 V.gid))):=A0 (HS.out.set 6 _ _ rfl);clear AC HS z hc;have HS:=AA;clear AA;generalize (q.setCell ⟨hb,6,none⟩ (.int .i64 V.gid))=u7 at*;go_wp2_with fail
 refine(vg.out _ _ _).mono ?_;rintro e wx ⟨rfl,rfl⟩;have AC:=A0 (N7 u7 (.pointer (some ⟨pb,0,none⟩)) tr 139 12 376 _ _ HR.out.mtime (At.get_mtime HR.out.ok HS.out.at) HR.out.ok.mtime (by omega) (by omega) (by omega));go_wp2_with fail
 refine AC.out.mono ?_;rintro e q ⟨rfl,AD⟩;have HQ:=A0 (HS.out.below AD);clear AD HS;have HS:=HQ;clear HQ;have hv:=HR.out.mtime.lt;have HT:=A0 (tOf q (V.mtime:Int) 0 (by omega) (by omega) (by omega));clear hv;go_wp2_with fail
 refine HT.out.mono ?_;rintro e q2 ⟨rfl,AD⟩;have HQ:=A0 (HS.out.below AD);clear AD HS HT;have HS:=HQ;clear HQ;have z2:=HS.out.hz 10;have AJ:=HS.out.hc 10 _ rfl;have z:=HS.out.hz 9;have hc:=HS.out.hc 9 _ rfl;go_wp2_with fail
 have AA:Hid (Z9 tr r AG AB AE B pb hb ({Hd.nil with typ:=J9 B,name:=D4 B.name,link:=D4 B.link,size:=V.size,mode:=V.mode,uid:=V.uid,gid:=V.gid,mx:=V.mtime+62135596800}:Hd) v0 ((q2.setCell ⟨hb,9,none⟩ (.int .u64 0)).setCell ⟨hb,10,none⟩ (.int .i64 (V.mtime+62135596800)))):=A0 ((HS.out.set 9 (.int .u64 0) ({Hd.nil with typ:=J9 B,name:=D4 B.name,link:=D4 B.link,size:=V.size,mode:=V.mode,uid:=V.uid,gid:=V.gid}:Hd) rfl).set 10 (.int .i64 (V.mtime+62135596800)) _ rfl);clear z2 AJ;clear AC HS z hc;have HS:=AA;clear AA;generalize ((q2.setCell ⟨hb,9,none⟩ (.int .u64 0)).setCell ⟨hb,10,none⟩ (.int .i64 (V.mtime+62135596800)))=u8 at*;refine AI.out _ _ ?_;exact rh2 tr r AG AB AE B V pb hb v0 _ HR.out HS.out R HK.out
theorem TR.seg {tr r:Nat} {AC:Int} {AA AB:Value} {l:List UInt8} {w:World} (h:TR tr r AC AA (Lib.byteCells l) AB w):
  E4 w tr 152 [.iface 84 (.pointer (some ⟨r,0,none⟩)),.int .i64 AC,AA] l [AB]:=by
 have:=h.1;unfold E4;rw[this];simp[N8]
def B1o (tr r g n c i:Nat) (AC:Int) (AA AB:Value) (B:C1) (H:Hd) (w:World) (e:Ending) (w':World):Prop:=
 ∃hb,e= .returned (.tuple #[.pointer (some ⟨hb,0,none⟩),.pointer (some ⟨tr,3,none⟩),.nilIface])/\w'.heap[hb]?=some (.cells H.cells.toArray 130 (0,0))/\RD r g n c (i+512) w'/\TR tr r AC AA (Lib.byteCells B.bytes) AB w'/\Fr w.heap.size [r,tr] w w'/\w.heap.size<=hb
theorem A7U {B:C1} (hR:RdB B): (B.bytes==List.replicate 512 0)=false:=by
 rw[zG];intro e
 have h1:B.bytes[257]?=some 117:=by
  rw[C1.at_magic,zT (by rw[hR.ok.bef_magic];omega),hR.ok.bef_magic,hR.magic];rfl
 rw[e,List.getElem?_replicate,if_pos (by omega)] at h1;cases h1
theorem A9S (w:World) (tr r g n c i:Nat) (AD:Int) (AA AB:Value) (bs:List UInt8) (AQ:List Value) (B:C1) (V:RdV) (hR:RdF B V) (h:RD r g n c i w) (ht:TR tr r AD AA AQ AB w) (hi:i+512<=n) (AG:n<4611686018427387904) (Aa:n<=c)
  (hb:bs.length=n) (AC:At w g 0 (Lib.byteCells bs)) (AV:g∉[r,tr]) (hB: (bs.drop i).take 512=B.bytes):
  Calls Tryz.prog 148 #[.pointer (some ⟨tr,0,none⟩)] w (B1o tr r g n c i AD AA AB B (O7 B V) w):=by
 have AZ:g≠r:=by simp at AV;exact AV.1
 have HC:=A2I w.drew tr r g n c i AD AA AB bs AQ h ht (by omega) AG Aa hb AC AZ;unfold A4h at HC;rw[hB] at HC;have HC:=A0 HC;obtain⟨c0,-⟩:=O4 ht.2 ht.1;have HR:=A0 hR;clear hR h ht AC;go_enter Tryz.func148,Tryz.ntmps148
 go_wp2_with fail
 go_region_held3 (λw'=>w'.cell? ⟨tr,0,none⟩=some (.iface 84 (.pointer (some ⟨r,0,none⟩)))) (first|go_keep|assumption) (first|(go_at_call 196;refine HC.out.mono ?_;rintro e w1 ⟨rfl,h2,h3,h4⟩;obtain⟨d0,-⟩:=O4 h3.2 h3.1))
 go_wp2_with fail
 have AT:=h3.at;have hz:=A7U HR.out.toRdB;have HE:=A1K (w1.alloc (.cells Tryz.zeroCells132 132)).drew tr 3 512 512 w1.heap.size 0 512 512 B.bytes (List.replicate 512 0) (AT.carry (zO w1 _ tr (A8 h3.1))) (A3F w1) HR.out.ok.len (by simp);rw[hz] at HE;have HE:=A0 HE;clear AT hz;go_region_held3 (λ_=>True) (trivial) (first|(go_at_call 197;refine HE.out.mono ?_;rintro e w2 ⟨rfl,rfl⟩))
 have AR:Fr w.heap.size [r,tr] w (w1.alloc (.cells Tryz.zeroCells132 132)).drew:=(((Fr.refl _ _ w).drew.trans h4).alloc _).drew;have AH:TR tr r AD AA (Lib.byteCells B.bytes) AB (w1.alloc (.cells Tryz.zeroCells132 132)).drew:=⟨(zO w1 _ tr (A8 h3.1)).trans h3.1,h3.2⟩;have AW:RD r g n c (i+512) (w1.alloc (.cells Tryz.zeroCells132 132)).drew:=h2.alloc _;clear d0 h2 h3 h4 HE HC c0;generalize (w1.alloc (.cells Tryz.zeroCells132 132)).drew=w2 at*;have AL:=A0 (B0i w2 tr 3 152 _ _ B HR.out.toRdB AH.seg rfl);have AI:=A0 AR;have AO:=A0 AH;have AM:=A0 AW;clear AR AH AW;go_wp2_with fail
 refine AL.out.mono ?_;rintro e w3 ⟨rfl,AE⟩;have AJ:=A0 (AI.out.trans (Fr.of_below AE w.heap.size [r,tr]));have AP:=A0 (AO.out.below AE);have AY:=A0 (AM.out.below AE);clear AL AI AO AM AE;go_upto_region 15 with fail
 rename_i K1 AS;have AX:=A0 AS;clear AS;go_wp2_with fail
 refine AX.out _ _ ?_;have Ab:w.heap.size<=w3.heap.size:=AJ.out.size;have AU:Below w3.heap.size w3 ((w3.alloc (.cells #[.nilIface] 231)).alloc (.cells Hd.nil.cells.toArray 130)):=((zD _ w3).alloc (zB _) _).alloc (by simp) _;refine rh1 tr r AD AA AB B V w3.heap.size (w3.heap.size+1) w3 _ HR.out ?_ _ (λw' hS=> ?_)
 ·refine⟨AP.out.below AU,?_,?_,AU,by omega,by omega,A8 AP.out.1⟩
  ·rw[zA (heap_alloc2_old w3 _ _)];rfl
  ·exact heap_alloc2_new w3 _ _
 ·refine⟨w3.heap.size+1,rfl,hS.Hh,AY.out.below hS.F,hS.T,AJ.out.trans (Fr.of_below hS.F _ _),by omega⟩
theorem Fr.thn {B B2:Nat} {S S2:List Nat} {a b c:World} (h:Fr B S a b) (k:Fr B2 S2 b c) (hB:B<=B2) (hS:∀q∈S2,q∈S\/a.heap.size<=q):Fr B S a c:=
 ⟨k.os.trans h.os,k.tape.trans h.tape,k.output.trans h.output,zP h.size k.size,λi o hi hn hb=>k.block i o (h.block i o hi hn hb) (λhm=>by
  rcases hS i hm with h|h
  ·exact hn h
  ·have:=A8 hi;omega) (λAA=>hb (zP hB AA))⟩
structure NB (tr r g fb:Nat) (pu pp pg:Bool) (bs:List UInt8) (aE:Addr) (v0 w:World):Prop where
 S:At w g 0 (Lib.byteCells bs)
 E:w.cell? ⟨0,0,none⟩=some (I7 aE)
 C:w.heap[fb]?=some (.cells #[.int .i64 (fm pu pp pg)] 128 (0,0))
 G:Fr v0.heap.size [r,tr] v0 w
 lfb:v0.heap.size<=fb
 gS:g∉[r,tr]
 zS:0∉[r,tr]
 rl:r<v0.heap.size
 tl:tr<v0.heap.size
 gl:g<v0.heap.size
 zl:0<v0.heap.size
theorem NB.step {tr r g fb:Nat} {pu pp pg:Bool} {bs:List UInt8} {aE:Addr} {v0 w w':World} (h:NB tr r g fb pu pp pg bs aE v0 w) {S2:List Nat} (f:Fr w.heap.size S2 w w') (hS:∀k∈S2,k=r\/k=tr\/(v0.heap.size<=k/\k≠fb)):NB tr r g fb pu pp pg bs aE v0 w':=by
 have hg:=h.gS;have hz:=h.zS;have AA:=h.gl;have AE:=h.zl;have AC:=h.rl;have AD:=h.tl;have AB:=h.lfb;simp at hg hz;have n1:g∉S2:=λhm=>by rcases hS g hm with e|e|e<;>omega
 have n2:0∉S2:=λhm=>by rcases hS 0 hm with e|e|e<;>omega
 have n3:fb∉S2:=λhm=>by rcases hS fb hm with e|e|e<;>omega
 exact⟨h.S.frame f (zB _) n1,f.cell h.E n2 (zC h.E),f.cells h.C n3 (.inr (by decide)),h.G.thn f h.G.size (λq hq=>by
  rcases hS q hq with e|e|e
  ·exact .inl (by simp[e])
  ·exact .inl (by simp[e])
  ·exact .inr e.1),h.lfb,h.gS,h.zS,h.rl,h.tl,h.gl,h.zl⟩
theorem NB.below {tr r g fb:Nat} {pu pp pg:Bool} {bs:List UInt8} {aE:Addr} {v0 w w':World} (h:NB tr r g fb pu pp pg bs aE v0 w) (f:Below w.heap.size w w'):NB tr r g fb pu pp pg bs aE v0 w':=
 h.step (S2:=[]) (Fr.of_below f _ _) (by simp)
theorem NB.setC {tr r g fb:Nat} {pu pp pg:Bool} {bs:List UInt8} {aE:Addr} {v0 w:World} (h:NB tr r g fb pu pp pg bs aE v0 w) (qu qp qg:Bool):NB tr r g fb qu qp qg bs aE v0 (w.setCell ⟨fb,0,none⟩ (.int .i64 (fm qu qp qg))):=by
 have AA:=h.gl;have AC:=h.zl;have AB:=h.lfb;have f:Fr w.heap.size [fb] w (w.setCell ⟨fb,0,none⟩ (.int .i64 (fm qu qp qg))):=(Fr.refl _ _ w).setCell (.inl (by simp)) _;refine⟨h.S.frame f (zB _) (by simp;omega),f.cell h.E (by simp;omega) (zC h.E),?_,h.G.thn f h.G.size (λq hq=> .inr (by simp at hq;omega)),h.lfb,h.gS,h.zS,h.rl,h.tl,h.gl,h.zl⟩;have:=B6 (i:=0) (.int .i64 (fm qu qp qg)) h.C;simpa using this
theorem NB.offC {w:World} {fb k:Nat} {o:Obj} (hk:w.heap[k]?=some o) (AA:k≠fb) (v:Value): (w.setCell ⟨fb,0,none⟩ v).heap[k]?=some o:=(C0 (a:=⟨fb,0,none⟩) _ AA).trans hk
theorem A5J (rv AE AB AD:Value) (AC AA:List Value) (k:AC.length=512) (k2:AA.length<=512):
  splice (rv::AE::AB::(AC++[AD])) 3 AA=rv::AE::AB::((AA++AC.drop AA.length)++[AD]):=by
 simp only[splice,List.take_succ_cons,List.take_zero,List.cons_append,List.nil_append,List.append_assoc];rw[show 3+AA.length=AA.length+1+1+1 by omega];simp only[List.drop_succ_cons];rw[List.drop_append_of_le_length (by omega)]
theorem B4L (w:World) (tr r g n c i AA:Nat) (AB AH:Value) (bs:List UInt8) (AG:List Value) (aE:Addr) (pd:Int) (h:RD r g n c i w) (ht:TR tr r pd AB AG AH w) (hi:i+AA<=n) (hp:AA<512) (AD:n<4611686018427387904) (AL:n<=c)
  (hb:bs.length=n) (AE:At w g 0 (Lib.byteCells bs)) (AJ:g≠r) (hE:w.cell? ⟨0,0,none⟩=some (I7 aE)) (AI:0∉[r,tr]):
  Calls Tryz.prog 147 #[.iface 84 (.pointer (some ⟨r,0,none⟩)),.slice (some ⟨tr,3,none⟩) AA 512] w λe w'=>e= .returned (.tuple #[.int .i64 AA,.nilIface])/\RD r g n c (i+AA) w'/\(∃AC,TR tr r pd AB AC AH w')/\Fr w.heap.size [r,tr] w w':=by
 by_cases h0:AA=0
 ·subst h0
  refine(A1H w _ _ _ aE hE).mono ?_;rintro e w' ⟨rfl,rfl⟩;exact⟨rfl,h,⟨AG,ht⟩,Fr.refl _ _ _⟩
 ·have AM:tr≠r:=by
   obtain⟨p,hr⟩:=h;rintro rfl;rw[ht.1] at hr;cases hr
  refine(A3s w r g n c i tr 3 AA 512 bs _ 152 aE h (by omega) (by omega) (by omega) AD AL hb AE ht.1 (by simp[ht.2];omega) AM AJ hE AI).mono ?_;rintro e w' ⟨rfl,h2,h3,h4⟩;have hl: (Lib.byteCells ((bs.drop i).take AA)).length=AA:=by rw[zJ,zR,List.length_drop,hb];omega
  rw[A5J _ _ _ _ _ _ ht.2 (by omega)] at h3;refine⟨rfl,h2,⟨_,h3,?_⟩,h4⟩;rw[zH,List.length_drop,hl,ht.2];omega
def A2B (n:Nat):Code->Option Code
 | .seq a b=>match A8x n a with
  |true=>some (.seq a b)
  |false=>match A2B n a with
   |some c=>some c
   |none=>A2B n b
 | .cond _ a b=>match A2B n a with
   |some c=>some c
   |none=>A2B n b
 | .block _ a=>A2B n a
 | .loop a=>A2B n a
 |_=>none
noncomputable def A4a:Code:=(A2B 4 (Tryz.f72.body.getD .skip)).getD .skip
noncomputable def A2c:Code:=(A2B 18 (Tryz.f72.body.getD .skip)).getD .skip
end Go.Proofs.YtkanmkcojlefbaaGreatDoor
namespace Go.Proofs.YtkanmkcojlefbaaGreatDoor
open Go.RowKit
variable {c1 c2 c3 c8 c9 vR jP jQ jR jS jT jU jO c20 c21 jV jW jX jY jZ kA kB kC kD kE kF kG kH kI kJ c37 kL kM kO kP kQ kR kS kT c46 kU kV kW kX c51 kY c53 kZ lA lB lC lD lE lF lG lH lI lJ lL lM lO lP lQ lR lS lT lU lV c75 lW lX lY lZ c80 mA mB mC mD c85 mE mF mG mH mI mJ mL mM mO mP mQ mR mS mT aA aB aD aF aG aH aI aJ aK aL aM aN aO aP aQ aR aS aT aU aV aW aX aY aZ bA bB bC c127 bD bE bF bG bH bI bJ bK bL bM bN bO bP bQ bR c143 bS c145 bT bU bV bW bX bY bZ cA cB cC cD cE cF cG cH cI cJ cL cM cO cP c167 c168 cQ cS c171 cT c173 cU c175 cV cW cX cY cZ dA dB dC dD dE dF dG dH dI dJ dL dM dO dP dQ dR dS dT dU dV dW dX dY:Value}
theorem J4.fr {w w':World} {v:Value} {R:KV} {B:Nat} {S:List Nat} (h:J4 w v R w.heap.size) (f:Fr B S w w') (hS:∀q∈S,∀es cl,w.heap[q]?≠some (.map es cl)):J4 w' v R w'.heap.size:=by
 rcases h with h|⟨rb,n,h1,h2,h3,h4⟩
 ·exact .inl h
 ·refine .inr ⟨rb,n,h1,zL h2 f.size,h3.fr f (λhm=> ?_),h4⟩
  obtain⟨D,⟨es,AA,he,_⟩,_⟩:=h3;exact hS rb hm es AA he
theorem RD.off {r g n c i fb:Nat} {w:World} (h:RD r g n c i w) (AA:r≠fb) (v:Value):RD r g n c i (w.setCell ⟨fb,0,none⟩ v):=by
 obtain⟨p,hr⟩:=h;exact⟨p,NB.offC hr AA _⟩
structure RdE (tr r g n c i fb hb fr:Nat) (pu pp:Bool) (bs:List UInt8) (aE:Addr) (blk:List Value) (H:Hd) (R:KV) (nb:Int) (v0 w:World):Prop where
 nbx:NB tr r g fb pu pp false bs aE v0 w
 Hh:w.heap[hb]?=some (.cells H.cells.toArray 130 (0,0))
 Rd:RD r g n c i w
 T:TR tr r (E7 nb) (.iface 146 (.pointer (some ⟨fr,0,none⟩))) blk .nilIface w
 F:FRd fr r nb w
 M:J4 w H.recs R w.heap.size
 hb0:v0.heap.size<=hb
 fr0:v0.heap.size<=fr
theorem RdE.fin {tr r g n c i fb hb fr:Nat} {pu pp:Bool} {bs:List UInt8} {aE:Addr} {AB:List Value} {H2:Hd} {R:KV} {nb:Int} {v0 w:World} (hN:NB tr r g fb pu pp false bs aE v0 w) (hH:w.heap[hb]?=some (.cells H2.cells.toArray 130 (0,0))) (hR:RD r g n c i w) (hT:TR tr r (E7 nb) (.iface 146 (.pointer (some ⟨fr,0,none⟩))) AB .nilIface w) (hF:FRd fr r nb w) (hM:J4 w H2.recs R w.heap.size) (f:Int)
  (h1:r≠hb) (h2:tr≠hb) (h3:v0.heap.size<=hb) (h4:hb≠fb) (h5:fr≠hb) (h6:v0.heap.size<=fr) (_h7:True):RdE tr r g n c i fb hb fr pu pp bs aE AB {H2 with fmt:=f} R nb v0 (w.setCell ⟨hb,19,none⟩ (.int .i64 f)):=by
 have AA:Fr w.heap.size [hb] w (w.setCell ⟨hb,19,none⟩ (.int .i64 f)):=(Fr.refl _ _ w).setCell (p:=⟨hb,19,none⟩) (.inl (by simp)) _;have hs:=B6 (i:=19) (.int .i64 f) hH;exact⟨hN.step AA (by simp;exact .inr (.inr ⟨h3,h4⟩)),hs,hR.fr AA (by simpa using h1),hT.fr AA (by simpa using h2),AA.cells hF (by simpa using h5) (.inr (by decide)),hM.fr AA (λq hq es cl e=>by obtain rfl:=List.mem_singleton.1 hq;rw[hH] at e;cases e),h3,h6⟩
theorem B8j (tr r g n c i fb hb:Nat) (Au:Int) (AU:Value) (Ae:List Value) (bs:List UInt8) (aE:Addr) (H H2:Hd) (m4:Value) (R:KV) (nb:Int) (v0 w:World) (AA:NB tr r g fb true true false bs aE v0 w) (h:RD r g n c i w) (ht:TR tr r Au AU Ae .nilIface w) (hh:w.heap[hb]?=some (.cells H.cells.toArray 130 (0,0))) (Ao:v0.heap.size<=hb)
  (hM:Calls Tryz.prog 151 #[.pointer (some ⟨hb,0,none⟩),m4] w λe w'=>e= .returned .nilIface/\w'.heap[hb]?=some (.cells H2.cells.toArray 130 (0,0))/\Fr w.heap.size [hb] w w')
  (Ar:48<=H.typ/\H.typ<=55) (An:H2.typ=H.typ) (hr:J4 w H2.recs R w.heap.size) (k1:R A2d=none) (k2:R A2e=none) (k3:R A9D=none) (AI:nb=if D1 H2.typ then 0 else H2.size) (h0:0<=nb) (h1:nb<=9223372036854775807)
  (Q:Exit->Act->World->Prop)
  (hQ:∀ (d0 d1 d4 d5 d6 d7 d8 d9 rZ sA sB sC sD sE sF sG sH sI sJ sK sL sM sN sO sP sQ sR sS sT sU sV sW sX sY sZ tA tB tC tD tE tF tH tI tJ tL tM tO tP tQ tR tS tT tU tV tW tX tY tZ uA uB uC uD uE uF uG uH uI uJ uK uL uM uN uO uP uQ uR uS uT uU uW uX uY uZ vA vB vC vD vE vF vG vH vI vJ vL vM vO vP vQ dZ eA eC eD eH eJ eK eO eR eS eV eW eX eY eZ fA fB fC fD fE fH fI fJ fK fL fN fO fP fQ fR fS fT fU fV fW fX fY fZ gA gB gC gD gE gF gG gH gI gJ gK gL gM gN gO gP gQ gR gT gU gW gX gY gZ hJ hZ iA iB iC iD iE iF iG iH iI iJ iK iL iM iN iO iP iQ iR iS iT iU iV iW iX iY iZ jA jB jC jD jE jF jG jH jI jJ jK jL jM jN:Value) (fr:Nat) (w':World),RdE tr r g n c i fb hb fr true false bs aE Ae {H2 with fmt:=2} R nb v0 w'->Q .ret ⟨(d0::d1::.pointer (some ⟨hb,0,none⟩)::.nilIface::d4::d5::d6::d7::d8::d9::rZ::sA::sB::sC::sD::sE::sF::sG::sH::sI::sJ::sK::sL::sM::sN::sO::sP::sQ::sR::sS::sT::sU::sV::sW::sX::sY::sZ::tA::tB::tC::tD::tE::tF::tH::tI::tJ::tL::tM::tO::tP::tQ::tR::tS::tT::tU::tV::tW::tX::tY::tZ::uA::uB::uC::uD::uE::uF::uG::uH::uI::uJ::uK::uL::uM::uN::uO::uP::uQ::uR::uS::uT::uU::uW::uX::uY::uZ::vA::vB::vC::vD::vE::vF::vG::vH::vI::vJ::vL::vM::vO::vP::vQ::dZ::eA::eC::eD::eH::eJ::eK::eO::eR::eS::eV::eW::eX::eY::eZ::fA::fB::fC::fD::fE::fH::fI::fJ::fK::fL::fN::fO::fP::fQ::fR::fS::fT::fU::fV::fW::fX::fY::fZ::gA::gB::gC::gD::gE::gF::gG::gH::gI::gJ::gK::gL::gM::gN::gO::gP::gQ::gR::gT::gU::gW::gX::gY::gZ::hJ::hZ::iA::iB::iC::iD::iE::iF::iG::iH::iI::iJ::iK::iL::iM::iN::iO::iP::iQ::iR::iS::iT::iU::iV::iW::iX::iY::iZ::jA::jB::jC::jD::jE::jF::jG::jH::jI::jJ::jK::jL::jM::jN::[]).toArray,[]⟩ w'):
  Code.wp Tryz.prog A2c Q ⟨(.pointer (some ⟨tr,0,none⟩)::c1::c2::c3::m4::.string {data:=#[]}::.string {data:=#[]}::.pointer (some ⟨fb,0,none⟩)::c8::c9::vR::.pointer (some ⟨hb,0,none⟩)::.pointer (some ⟨tr,3,none⟩)::jP::jQ::jR::jS::jT::jU::jO::c20::c21::jV::jW::jX::jY::jZ::kA::kB::kC::kD::kE::kF::kG::kH::kI::kJ::c37::kL::kM::kO::kP::kQ::kR::kS::kT::c46::kU::kV::kW::kX::c51::kY::c53::kZ::lA::lB::lC::lD::lE::lF::lG::lH::lI::lJ::lL::lM::lO::lP::lQ::lR::lS::lT::lU::lV::c75::lW::lX::lY::lZ::c80::mA::mB::mC::mD::c85::mE::mF::mG::mH::mI::mJ::mL::mM::mO::mP::mQ::mR::mS::mT::aA::aB::aD::aF::aG::aH::aI::aJ::aK::aL::aM::aN::aO::aP::aQ::aR::aS::aT::aU::aV::aW::aX::aY::aZ::bA::bB::bC::c127::bD::bE::bF::bG::bH::bI::bJ::bK::bL::bM::bN::bO::bP::bQ::bR::c143::bS::c145::bT::bU::bV::bW::bX::bY::bZ::cA::cB::cC::cD::cE::cF::cG::cH::cI::cJ::cL::cM::cO::cP::c167::c168::cQ::cS::c171::cT::c173::cU::c175::cV::cW::cX::cY::cZ::dA::dB::dC::dD::dE::dF::dG::dH::dI::dJ::dL::dM::dO::dP::dQ::dR::dS::dT::dU::dV::dW::dX::dY::[]).toArray,[]⟩ w:=by
 conv=>arg 2;whnf
 have HQ:=A0 hQ;have HM:=A0 hM;have AR:=A0 AI;have Aw: (H.typ==120)=false:=by rw[zG];omega
 have Av: (H.typ==103)=false:=by rw[zG];omega
 have BQ: (H.typ==76)=false:=by rw[zG];omega
 have BP: (H.typ==75)=false:=by rw[zG];omega
 have q0: (H2.typ==0)=false:=by rw[zG];omega
 have As:H2.typ≠83:=by omega
 have c0:w.cell? ⟨hb,0,none⟩=some (.int .u8 H.typ):=by rw[zA hh];rfl
 have Ah:∀q∈[hb,tr,fb],∀es cl,w.heap[q]?≠some (.map es cl):=by
  intro q hq es cl e;simp at hq;rcases hq with rfl|rfl|rfl
  ·rw[hh] at e;cases e
  ·rw[ht.1] at e;cases e
  ·rw[AA.C] at e;cases e
 have AO:hb≠fb:=by
  rintro rfl;have:=AA.C;rw[hh] at this;injection this with this;injection this with _ t _;exact absurd t (by decide)
 have BO:=AA.tl;have BM:=AA.rl;have BL:=AA.lfb;have BD:=AA.G.size;have BI:=A8 hh;have BJ:=A8 AA.C
 have Aq:r≠tr:=by
  obtain⟨p,hr⟩:=h;rintro rfl;rw[ht.1] at hr;cases hr
 have HN:=A0 AA;have HR:=A0 h;have HT:=A0 ht;have HH:=A0 hh;have Ab:=A0 hr;have Ak:=A0 Ah;clear hQ hM AI AA h ht hh hr Ah Ar An;go_wp2_with fail
 refine HM.out.mono ?_;rintro e w1 ⟨rfl,AV,AD⟩;have AW:=A0 (HN.out.step AD (by simp;omega));have AT:=A0 (HT.out.fr AD (by simp;omega));have AZ:=A0 (HR.out.fr AD (by simp;omega));have AH:=A0 (Ab.out.fr AD (λq hq=>Ak.out q (by simp at hq⊢;exact .inl hq)));have AQ:=A0 AV;have Ay:=A0 AD;have d0:w1.cell? ⟨hb,0,none⟩=some (.int .u8 H2.typ):=by rw[zA AV];rfl
 have BE:=AD.size;clear HM HN HT HR HH Ab AV AD c0;go_wp2_with fail
 refine(Y2 w1 tr r _ _ .nilIface _ hb H2 nb AT.out AQ.out AR.out h0 h1).mono ?_;rintro e w2 ⟨Af,rfl,Ag,Ap,Ai,AE⟩;have AX:=A0 (AW.out.step AE (by simp));have AL:=A0 (AE.cells AQ.out (by simp;omega) (.inr (by decide)));have Aa:=A0 (AZ.out.fr AE (by simp;exact Aq))
 have AJ:∀q∈[tr],∀es cl,w1.heap[q]?≠some (.map es cl):=by
  intro q hq es cl e;obtain rfl:=List.mem_singleton.1 hq;rw[AT.out.1] at e;cases e
 have AB:=A0 (AH.out.fr AE AJ);have Ac:=A0 Ai;have AP:=A0 Ag;have BF:=AE.size;clear AW AQ AZ AT AH Ag Ai AE AJ d0;go_wp2_with fail
 refine(U2 w2 tr hb _ H2 R _ AL.out AB.out As k1 k2 k3).mono ?_;rintro e w3 ⟨rfl,hd⟩;obtain⟨nd,rfl⟩:=hd;have AC:=bdn (zD w2.heap.size w2) nd;have AM:=A0 (AX.out.below AC);have AG:=A0 ((AC.block hb (A8 AL.out)).trans AL.out);have Al:=A0 (Aa.out.below AC);have Ad:=A0 (Ac.out.below AC);have Aj:=A0 ((AC.block Af (A8 AP.out)).trans AP.out);have AS:=A0 (AB.out.fr (Fr.of_below AC w2.heap.size []) (by simp));have BH: (w2.drewN nd).heap.size=w2.heap.size:=rfl;clear AX AL Aa Ac AP AB AC;generalize w2.drewN nd=w3 at*;have e0:w3.cell? ⟨fb,0,none⟩=some (.int .i64 (fm true true false)):=by rw[zA AM.out.C];rfl
 have jO:w3.cell? ⟨hb,19,none⟩=some (.int .i64 H2.fmt):=by rw[zA AG.out];rfl
 have BR:w3.frozen? ⟨hb,19,none⟩=false:=zE AG.out 19;have HA:=A0 (A5o w3 true true false true false false);have HB:=A0 (A5o w3 true true false false true false);have HC:=A0 (R6 w3 fb true true false true false false AM.out.C);simp only[Bool.and_true,Bool.and_false,Bool.or_false,Bool.false_and,Bool.true_and,Bool.or_true,Bool.true_or] at HA HB HC;have BC:Hid (fm true false false=2):=A0 rfl;have BA:Hid (fm false true false=4):=A0 rfl;have Az:Hid (fm true true false=6):=A0 rfl;rw[show fm true true false=6 from rfl] at e0;rw[show fm true true false=6 from rfl,show fm true false false=2 from rfl] at HA;rw[show fm true true false=6 from rfl,show fm false true false=4 from rfl] at HB;rw[show fm true false false=2 from rfl] at HC;have Ax: (w3.setCell ⟨fb,0,none⟩ (.int .i64 2)).frozen? ⟨hb,19,none⟩=false:=zE (NB.offC AG.out AO _) 19;have Am: (w3.setCell ⟨fb,0,none⟩ (.int .i64 2)).cell? ⟨hb,19,none⟩=some (.int .i64 H2.fmt):=by rw[zA (NB.offC AG.out AO _)];rfl
 go_wp2_with (first|(go_at_call 66;refine HA.out.mono ?_;rintro e wx ⟨rfl,rfl⟩)|(go_at_call 66;refine HB.out.mono ?_;rintro e wx ⟨rfl,rfl⟩)|(go_at_call 123;refine HC.out.mono ?_;rintro e wx ⟨rfl,rfl⟩)|fail)
 refine HQ.out _ _ _ _ _ _ _ _ _ _ _ _ _ _ _ _ _ _ _ _ _ _ _ _ _ _ _ _ _ _ _ _ _ _ _ _ _ _ _ _ _ _ _ _ _ _ _ _ _ _ _ _ _ _ _ _ _ _ _ _ _ _ _ _ _ _ _ _ _ _ _ _ _ _ _ _ _ _ _ _ _ _ _ _ _ _ _ _ _ _ _ _ _ _ _ _ _ _ _ _ _ _ _ _ _ _ _ _ _ _ _ _ _ _ _ _ _ _ _ _ _ _ _ _ _ _ _ _ _ _ _ _ _ _ _ _ _ _ _ _ _ _ _ _ _ _ _ _ _ _ _ _ _ _ _ _ _ _ _ _ _ _ _ _ _ _ _ _ _ _ _ _ _ _ _ _ _ _ _ _ _ _ _ _ _ _ _ _ _ _ _ _ _ _ _ _ _ _ _ _ _ _ Af _ ?_;have AY:=AM.out.setC true false false;rw[show fm true false false=2 from rfl] at AY;have hw: (w3.setCell ⟨fb,0,none⟩ (.int .i64 2)).heap[hb]?=some (.cells H2.cells.toArray 130 (0,0)):=NB.offC AG.out AO _;exact RdE.fin AY hw (Al.out.off (by omega) _) ⟨NB.offC Ad.out.1 (by omega) _,Ad.out.2⟩ (NB.offC Aj.out (by omega) _) (AS.out.fr ((Fr.refl w3.heap.size [fb] w3).setCell (.inl (by simp)) _) (λq hq=>by obtain rfl:=List.mem_singleton.1 hq;intro es cl e;rw[AM.out.C] at e;cases e)) 2 (by omega) (by omega) Ao AO (by omega) (by omega) trivial
theorem B8i (tr r g n c i fb hb:Nat) (Ar:Int) (AT:Value) (Ab:List Value) (bs:List UInt8) (aE:Addr) (H H2:Hd) (m4:Value) (R:KV) (nb:Int) (v0 w:World) (AA:NB tr r g fb false true false bs aE v0 w) (h:RD r g n c i w) (ht:TR tr r Ar AT Ab .nilIface w) (hh:w.heap[hb]?=some (.cells H.cells.toArray 130 (0,0))) (Al:v0.heap.size<=hb)
  (hM:Calls Tryz.prog 151 #[.pointer (some ⟨hb,0,none⟩),m4] w λe w'=>e= .returned .nilIface/\w'.heap[hb]?=some (.cells H2.cells.toArray 130 (0,0))/\Fr w.heap.size [hb] w w')
  (Ap:48<=H.typ/\H.typ<=55) (Ak:H2.typ=H.typ) (hr:J4 w H2.recs R w.heap.size) (k1:R A2d=none) (k2:R A2e=none) (k3:R A9D=none) (AH:nb=if D1 H2.typ then 0 else H2.size) (h0:0<=nb) (h1:nb<=9223372036854775807)
  (Q:Exit->Act->World->Prop)
  (hQ:∀ (d0 d1 d4 d5 d6 d7 d8 d9 rZ sA sB sC sD sE sF sG sH sI sJ sK sL sM sN sO sP sQ sR sS sT sU sV sW sX sY sZ tA tB tC tD tE tF tH tI tJ tL tM tO tP tQ tR tS tT tU tV tW tX tY tZ uA uB uC uD uE uF uG uH uI uJ uK uL uM uN uO uP uQ uR uS uT uU uW uX uY uZ vA vB vC vD vE vF vG vH vI vJ vL vM vO vP vQ dZ eA eC eD eH eJ eK eO eR eS eV eW eX eY eZ fA fB fC fD fE fH fI fJ fK fL fN fO fP fQ fR fS fT fU fV fW fX fY fZ gA gB gC gD gE gF gG gH gI gJ gK gL gM gN gO gP gQ gR gT gU gW gX gY gZ hJ hZ iA iB iC iD iE iF iG iH iI iJ iK iL iM iN iO iP iQ iR iS iT iU iV iW iX iY iZ jA jB jC jD jE jF jG jH jI jJ jK jL jM jN:Value) (fr:Nat) (w':World),RdE tr r g n c i fb hb fr false true bs aE Ab {H2 with fmt:=4} R nb v0 w'->Q .ret ⟨(d0::d1::.pointer (some ⟨hb,0,none⟩)::.nilIface::d4::d5::d6::d7::d8::d9::rZ::sA::sB::sC::sD::sE::sF::sG::sH::sI::sJ::sK::sL::sM::sN::sO::sP::sQ::sR::sS::sT::sU::sV::sW::sX::sY::sZ::tA::tB::tC::tD::tE::tF::tH::tI::tJ::tL::tM::tO::tP::tQ::tR::tS::tT::tU::tV::tW::tX::tY::tZ::uA::uB::uC::uD::uE::uF::uG::uH::uI::uJ::uK::uL::uM::uN::uO::uP::uQ::uR::uS::uT::uU::uW::uX::uY::uZ::vA::vB::vC::vD::vE::vF::vG::vH::vI::vJ::vL::vM::vO::vP::vQ::dZ::eA::eC::eD::eH::eJ::eK::eO::eR::eS::eV::eW::eX::eY::eZ::fA::fB::fC::fD::fE::fH::fI::fJ::fK::fL::fN::fO::fP::fQ::fR::fS::fT::fU::fV::fW::fX::fY::fZ::gA::gB::gC::gD::gE::gF::gG::gH::gI::gJ::gK::gL::gM::gN::gO::gP::gQ::gR::gT::gU::gW::gX::gY::gZ::hJ::hZ::iA::iB::iC::iD::iE::iF::iG::iH::iI::iJ::iK::iL::iM::iN::iO::iP::iQ::iR::iS::iT::iU::iV::iW::iX::iY::iZ::jA::jB::jC::jD::jE::jF::jG::jH::jI::jJ::jK::jL::jM::jN::[]).toArray,[]⟩ w'):
  Code.wp Tryz.prog A2c Q ⟨(.pointer (some ⟨tr,0,none⟩)::c1::c2::c3::m4::.string {data:=#[]}::.string {data:=#[]}::.pointer (some ⟨fb,0,none⟩)::c8::c9::vR::.pointer (some ⟨hb,0,none⟩)::.pointer (some ⟨tr,3,none⟩)::jP::jQ::jR::jS::jT::jU::jO::c20::c21::jV::jW::jX::jY::jZ::kA::kB::kC::kD::kE::kF::kG::kH::kI::kJ::c37::kL::kM::kO::kP::kQ::kR::kS::kT::c46::kU::kV::kW::kX::c51::kY::c53::kZ::lA::lB::lC::lD::lE::lF::lG::lH::lI::lJ::lL::lM::lO::lP::lQ::lR::lS::lT::lU::lV::c75::lW::lX::lY::lZ::c80::mA::mB::mC::mD::c85::mE::mF::mG::mH::mI::mJ::mL::mM::mO::mP::mQ::mR::mS::mT::aA::aB::aD::aF::aG::aH::aI::aJ::aK::aL::aM::aN::aO::aP::aQ::aR::aS::aT::aU::aV::aW::aX::aY::aZ::bA::bB::bC::c127::bD::bE::bF::bG::bH::bI::bJ::bK::bL::bM::bN::bO::bP::bQ::bR::c143::bS::c145::bT::bU::bV::bW::bX::bY::bZ::cA::cB::cC::cD::cE::cF::cG::cH::cI::cJ::cL::cM::cO::cP::c167::c168::cQ::cS::c171::cT::c173::cU::c175::cV::cW::cX::cY::cZ::dA::dB::dC::dD::dE::dF::dG::dH::dI::dJ::dL::dM::dO::dP::dQ::dR::dS::dT::dU::dV::dW::dX::dY::[]).toArray,[]⟩ w:=by
 conv=>arg 2;whnf
 have HQ:=A0 hQ;have HM:=A0 hM;have AQ:=A0 AH;have Au: (H.typ==120)=false:=by rw[zG];omega
 have As: (H.typ==103)=false:=by rw[zG];omega
 have BM: (H.typ==76)=false:=by rw[zG];omega
 have BL: (H.typ==75)=false:=by rw[zG];omega
 have q0: (H2.typ==0)=false:=by rw[zG];omega
 have Aq:H2.typ≠83:=by omega
 have c0:w.cell? ⟨hb,0,none⟩=some (.int .u8 H.typ):=by rw[zA hh];rfl
 have Ae:∀q∈[hb,tr,fb],∀es cl,w.heap[q]?≠some (.map es cl):=by
  intro q hq es cl e;simp at hq;rcases hq with rfl|rfl|rfl
  ·rw[hh] at e;cases e
  ·rw[ht.1] at e;cases e
  ·rw[AA.C] at e;cases e
 have Am:hb≠fb:=by
  rintro rfl;have:=AA.C;rw[hh] at this;injection this with this;injection this with _ t _;exact absurd t (by decide)
 have BJ:=AA.tl;have BI:=AA.rl;have BH:=AA.lfb;have Az:=AA.G.size;have BE:=A8 hh;have BF:=A8 AA.C
 have Ao:r≠tr:=by
  obtain⟨p,hr⟩:=h;rintro rfl;rw[ht.1] at hr;cases hr
 have HN:=A0 AA;have HR:=A0 h;have HT:=A0 ht;have HH:=A0 hh;have AZ:=A0 hr;have Ah:=A0 Ae;clear hQ hM AH AA h ht hh hr Ae Ap Ak;go_wp2_with fail
 refine HM.out.mono ?_;rintro e w1 ⟨rfl,AU,AD⟩;have AV:=A0 (HN.out.step AD (by simp;omega));have AS:=A0 (HT.out.fr AD (by simp;omega));have AX:=A0 (HR.out.fr AD (by simp;omega));have AG:=A0 (AZ.out.fr AD (λq hq=>Ah.out q (by simp at hq⊢;exact .inl hq)));have AM:=A0 AU;have Av:=A0 AD;have d0:w1.cell? ⟨hb,0,none⟩=some (.int .u8 H2.typ):=by rw[zA AU];rfl
 have BA:=AD.size;clear HM HN HT HR HH AZ AU AD c0;go_wp2_with fail
 refine(Y2 w1 tr r _ _ .nilIface _ hb H2 nb AS.out AM.out AQ.out h0 h1).mono ?_;rintro e w2 ⟨Ac,rfl,Ad,An,Af,AE⟩;have AW:=A0 (AV.out.step AE (by simp));have AJ:=A0 (AE.cells AM.out (by simp;omega) (.inr (by decide)));have AY:=A0 (AX.out.fr AE (by simp;exact Ao))
 have AI:∀q∈[tr],∀es cl,w1.heap[q]?≠some (.map es cl):=by
  intro q hq es cl e;obtain rfl:=List.mem_singleton.1 hq;rw[AS.out.1] at e;cases e
 have AB:=A0 (AG.out.fr AE AI);have Aa:=A0 Af;have AL:=A0 Ad;have BC:=AE.size;clear AV AM AX AS AG Ad Af AE AI d0;go_wp2_with fail
 refine(U2 w2 tr hb _ H2 R _ AJ.out AB.out Aq k1 k2 k3).mono ?_;rintro e w3 ⟨rfl,hd⟩;obtain⟨nd,rfl⟩:=hd;have AC:=bdn (zD w2.heap.size w2) nd;have AP:=A0 (AW.out.below AC);have AO:=A0 ((AC.block hb (A8 AJ.out)).trans AJ.out);have Ai:=A0 (AY.out.below AC);have Aj:=A0 (Aa.out.below AC);have Ag:=A0 ((AC.block Ac (A8 AL.out)).trans AL.out);have AR:=A0 (AB.out.fr (Fr.of_below AC w2.heap.size []) (by simp));have BD: (w2.drewN nd).heap.size=w2.heap.size:=rfl;clear AW AJ AY Aa AL AB AC;generalize w2.drewN nd=w3 at*;have e0:w3.cell? ⟨fb,0,none⟩=some (.int .i64 (fm false true false)):=by rw[zA AP.out.C];rfl
 have jO:w3.cell? ⟨hb,19,none⟩=some (.int .i64 H2.fmt):=by rw[zA AO.out];rfl
 have BO:w3.frozen? ⟨hb,19,none⟩=false:=zE AO.out 19;have HA:=A0 (A5o w3 false true false true false false);have HB:=A0 (A5o w3 false true false false true false);have HC:=A0 (R6 w3 fb false true false true false false AP.out.C);simp only[Bool.and_true,Bool.and_false,Bool.or_false,Bool.false_and,Bool.true_and,Bool.or_true,Bool.true_or] at HA HB HC;have Ay:Hid (fm true false false=2):=A0 rfl;have Ax:Hid (fm false true false=4):=A0 rfl;have Aw:Hid (fm true true false=6):=A0 rfl;rw[show fm false true false=4 from rfl] at e0;rw[show fm false true false=4 from rfl,show fm true false false=2 from rfl] at HA;rw[show fm false true false=4 from rfl] at HB;go_wp2_with (first|(go_at_call 66;refine HA.out.mono ?_;rintro e wx ⟨rfl,rfl⟩)|(go_at_call 66;refine HB.out.mono ?_;rintro e wx ⟨rfl,rfl⟩)|fail)
 refine HQ.out _ _ _ _ _ _ _ _ _ _ _ _ _ _ _ _ _ _ _ _ _ _ _ _ _ _ _ _ _ _ _ _ _ _ _ _ _ _ _ _ _ _ _ _ _ _ _ _ _ _ _ _ _ _ _ _ _ _ _ _ _ _ _ _ _ _ _ _ _ _ _ _ _ _ _ _ _ _ _ _ _ _ _ _ _ _ _ _ _ _ _ _ _ _ _ _ _ _ _ _ _ _ _ _ _ _ _ _ _ _ _ _ _ _ _ _ _ _ _ _ _ _ _ _ _ _ _ _ _ _ _ _ _ _ _ _ _ _ _ _ _ _ _ _ _ _ _ _ _ _ _ _ _ _ _ _ _ _ _ _ _ _ _ _ _ _ _ _ _ _ _ _ _ _ _ _ _ _ _ _ _ _ _ _ _ _ _ _ _ _ _ _ _ _ _ _ _ _ _ _ _ _ Ac _ ?_;exact RdE.fin AP.out AO.out Ai.out Aj.out Ag.out AR.out 4 (by omega) (by omega) Al Am (by omega) (by omega) trivial
end Go.Proofs.YtkanmkcojlefbaaGreatDoor
