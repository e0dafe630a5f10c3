/-
  Part of the proof; holds the texts RHs, RH2, RH1, RH0, RNb.
-/
import Derived.Test.YtkanmkcojlefbaaGreatDoorM09
set_option maxHeartbeats 8000000
set_option maxRecDepth 100000
set_option linter.unusedSimpArgs false
set_option linter.unusedVariables false
namespace Go.Proofs.YtkanmkcojlefbaaGreatDoor
open Go.RowKit
structure RdV where
 mode:Nat
 uid:Nat
 gid:Nat
 size:Nat
 mtime:Nat
 maj:Nat
 mnr:Nat
structure RdF (B:C1) (V:RdV):Prop extends RdB B where
 low:∀b∈B.bytes,b.toNat<128
 mode:P8 B.mode V.mode
 uid:P8 B.uid V.uid
 gid:P8 B.gid V.gid
 size:P8 B.size V.size
 mtime:P8 B.mtime V.mtime
 maj:P8 B.maj V.maj
 mnr:P8 B.mnr V.mnr
 zmode:B.mode[7]?=some 0
 zuid:B.uid[7]?=some 0
 zgid:B.gid[7]?=some 0
 zsize:B.size[11]?=some 0
 zmtime:B.mtime[11]?=some 0
 zmaj:B.maj[7]?=some 0
 zmnr:B.mnr[7]?=some 0
def A0x (B:C1):List UInt8:=D4 (B.rest.take 155)
def A0U (B:C1):List UInt8:=if A0x B=[] then D4 B.name else A0x B++47::D4 B.name
def Hd.nil:Hd:=⟨0,[],[],0,0,0,0,[],[],0,0,0,0,0,0,0,0,.map none,.map none,0⟩
def J9 (B:C1):Int:=(B.typ[0]?.getD 0).toNat
def A2V (B:C1) (V:RdV):Hd:= {Hd.nil with typ:=J9 B,name:=D4 B.name,link:=D4 B.link,size:=V.size,mode:=V.mode,uid:=V.uid,gid:=V.gid,mx:=V.mtime+62135596800}
def O7 (B:C1) (V:RdV):Hd:= {A2V B V with name:=A0U B,user:=D4 B.user,group:=D4 B.group,maj:=V.maj,mnr:=V.mnr,fmt:=6}
structure Z9 (tr r:Nat) (pad:Int) (curr err:Value) (B:C1) (pb hb:Nat) (H:Hd) (v0 w:World):Prop where
 T:TR tr r pad curr (Lib.byteCells B.bytes) err w
 P:w.cell? ⟨pb,0,none⟩=some .nilIface
 Hh:w.heap[hb]?=some (.cells H.cells.toArray 130 (0,0))
 F:Below v0.heap.size v0 w
 h0:v0.heap.size<=hb
 hp:pb≠hb
 ht:tr<v0.heap.size
theorem Z9.below {tr r:Nat} {AC:Int} {AA AB:Value} {B:C1} {pb hb:Nat} {H:Hd} {v0 w w':World} (h:Z9 tr r AC AA AB B pb hb H v0 w) (f:Below w.heap.size w w'):Z9 tr r AC AA AB B pb hb H v0 w':=
 ⟨⟨(f.block tr (A8 h.T.1)).trans h.T.1,h.T.2⟩,(f.cell (block_lt_of_cell h.P)).trans h.P,(f.block hb (A8 h.Hh)).trans h.Hh,h.F.trans (f.mono h.F.size),h.h0,h.hp,h.ht⟩
theorem Z9.set {tr r:Nat} {AC:Int} {AA AB:Value} {B:C1} {pb hb:Nat} {H:Hd} {v0 w:World} (h:Z9 tr r AC AA AB B pb hb H v0 w) (k:Nat) (v:Value) (H2:Hd) (he:H.cells.set k v=H2.cells):Z9 tr r AC AA AB B pb hb H2 v0 (w.setCell ⟨hb,k,none⟩ v):=by
 have ht:=h.ht;have h0:=h.h0;refine⟨⟨(C0 _ (show tr≠hb by omega)).trans h.T.1,h.T.2⟩,?_,?_,h.F.setCell (p:=⟨hb,k,none⟩) h.h0 _,h.h0,h.hp,h.ht⟩
 ·exact(World.cell?_setCell_other w ⟨hb,k,none⟩ ⟨pb,0,none⟩ _ (λe=>h.hp (by cases e;rfl))).trans h.P
 ·have:=B6 (i:=k) v h.Hh
  rw[this,List.setIfInBounds_toArray,he]
theorem Z9.hz {tr r:Nat} {AC:Int} {AA AB:Value} {B:C1} {pb hb:Nat} {H:Hd} {v0 w:World} (h:Z9 tr r AC AA AB B pb hb H v0 w) (k:Nat):w.frozen? ⟨hb,k,none⟩=false:=Lib.frozen_of_heap h.Hh k
theorem Z9.hc {tr r:Nat} {AC:Int} {AA AB:Value} {B:C1} {pb hb:Nat} {H:Hd} {v0 w:World} (h:Z9 tr r AC AA AB B pb hb H v0 w) (k:Nat) (v:Value) (hv:H.cells[k]?=some v):w.cell? ⟨hb,k,none⟩=some v:=by
 rw[Lib.cell_of_heap h.Hh,List.getElem?_toArray,hv]
theorem Z9.at {tr r:Nat} {AC:Int} {AA AB:Value} {B:C1} {pb hb:Nat} {H:Hd} {v0 w:World} (h:Z9 tr r AC AA AB B pb hb H v0 w):At w tr 3 (Lib.byteCells B.bytes):=h.T.at
noncomputable def B3H:Code:=I2 16 (Tryz.f148.body.getD .skip)
noncomputable def B3I:Code:=I2 25 (Tryz.f148.body.getD .skip)
theorem B7B (w:World):Calls Tryz.prog 66 #[.int .i64 6,.int .i64 6] w (C4 w (.bool true)):=by
 have e:bits .and .i64 6 6=6:=by decide
 go_enter Tryz.func66,Tryz.ntmps66
 go_wp2_with fail
 go_ret
 exact⟨rfl,rfl⟩
theorem rh2 (tr r:Nat) (AI:Int) (AA AH:Value) (B:C1) (V:RdV) (pb hb:Nat) (v0 u0:World) (hR:RdF B V) (h:Z9 tr r AI AA AH B pb hb (A2V B V) v0 u0)
  (R:Ending->World->Prop) (hK:∀w',Z9 tr r AI AA AH B pb hb (O7 B V) v0 w'->R (.returned (.tuple #[.pointer (some ⟨hb,0,none⟩),.pointer (some ⟨tr,3,none⟩),.nilIface])) w') {c1 c2 c3 c4 c5 c6 c7 c8 kL kM kO kP kQ kR kS c20 c21 kT kU kV kW kX kY kZ lB lC lD lE lF lG lH lI c37 lJ lL lM lO lP lQ lR lS c46 lT lU lV lW c51 lX c53 lY lZ mA mB mC mD mE mF mG mH mI mJ mL mM mO mP mQ mR mS mT mU c75 mV mW mX mY c80 mZ nA nB nC c85 nD nE nF nG nH nI nJ nL nM nO nP nQ nS nT aA aB aC aD aF aG aH aI aJ aK aL aM aN aO aP aQ aR aS aT aU aV aW aX aY aZ bB bC c127 bD bE bF bG bH bI bJ bK bL bM bN bO bP bQ bR c143 bS c145 bT bU bV bW bX bY bZ cA cB cC cD cE cF cG cH cI cJ cL cM cO cP c167 c168 cQ cS c171 cT c173 cU c175 cV cW cX cY cZ dA dB dC dD dE dF dG dH dI dJ dL dM dO dP dQ dR dS dT dU dV dW dX dY dZ eA eC eD eH eJ c210 eK c212 c213 eO eR eS eV eW eX eY eZ fA fB fC fD fE fH fI fJ fK fL c232 c233 fN fO fP fQ fR fS fT fU fV fW fX fY fZ gA gB gC gD gE gF gG gH gI gJ gK gL gM gN gO gP gQ gR gT gU gW gX gY gZ hJ hZ iA iB iC iD iE iF iG iH iI iJ iK iL iM iN iO iP iQ iR iS iT iU iV iW iX iY iZ jA jB jC jD jE jF jG jH jI jJ jK jL jM jN jO jP jQ jR jS jT jU jV jW jX jY jZ kA kB kC kD kE kF kG kH kI kJ:Value}:
  Code.wp Tryz.prog B3I (bodyPost Tryz.prog Tryz.f148 R) ⟨(.pointer (some ⟨tr,0,none⟩)::c1::c2::c3::c4::c5::c6::c7::c8::.int .i64 6::.pointer (some ⟨pb,0,none⟩)::.pointer (some ⟨hb,0,none⟩)::.pointer (some ⟨tr,3,none⟩)::kL::kM::kO::kP::kQ::kR::kS::c20::c21::kT::kU::kV::kW::kX::kY::kZ::lB::lC::lD::lE::lF::lG::lH::lI::c37::lJ::lL::lM::lO::lP::lQ::lR::lS::c46::lT::lU::lV::lW::c51::lX::c53::lY::lZ::mA::mB::mC::mD::mE::mF::mG::mH::mI::mJ::mL::mM::mO::mP::mQ::mR::mS::mT::mU::c75::mV::mW::mX::mY::c80::mZ::nA::nB::nC::c85::nD::nE::nF::nG::nH::nI::nJ::nL::nM::nO::nP::nQ::nS::nT::aA::aB::aC::aD::aF::aG::aH::aI::aJ::aK::aL::aM::aN::aO::aP::aQ::aR::aS::aT::aU::aV::aW::aX::aY::aZ::bB::bC::c127::bD::bE::bF::bG::bH::bI::bJ::bK::bL::bM::bN::bO::bP::bQ::bR::c143::bS::c145::bT::bU::bV::bW::bX::bY::bZ::cA::cB::cC::cD::cE::cF::cG::cH::cI::cJ::cL::cM::cO::cP::c167::c168::cQ::cS::c171::cT::c173::cU::c175::cV::cW::cX::cY::cZ::dA::dB::dC::dD::dE::dF::dG::dH::dI::dJ::dL::dM::dO::dP::dQ::dR::dS::dT::dU::dV::dW::dX::dY::dZ::eA::eC::eD::eH::eJ::c210::eK::c212::c213::eO::eR::eS::eV::eW::eX::eY::eZ::fA::fB::fC::fD::fE::fH::fI::fJ::fK::fL::c232::c233::fN::fO::fP::fQ::fR::fS::fT::fU::fV::fW::fX::fY::fZ::gA::gB::gC::gD::gE::gF::gG::gH::gI::gJ::gK::gL::gM::gN::gO::gP::gQ::gR::gT::gU::gW::gX::gY::gZ::hJ::hZ::iA::iB::iC::iD::iE::iF::iG::iH::iI::iJ::iK::iL::iM::iN::iO::iP::iQ::iR::iS::iT::iU::iV::iW::iX::iY::iZ::jA::jB::jC::jD::jE::jF::jG::jH::jI::jJ::jK::jL::jM::jN::jO::jP::jQ::jR::jS::jT::jU::jV::jW::jX::jY::jZ::kA::kB::kC::kD::kE::kF::kG::kH::kI::kJ::[]).toArray,[]⟩ u0:=by
 conv=>arg 2;whnf
 obtain⟨u1,AW⟩:∃u1,u1=u0:=⟨_,rfl⟩;rw[<-AW] at h⊢;clear AW u0;have HS:=A0 h;have HR:=A0 hR;have HK:=A0 hK;have vu:=A0 Z0;have va:=A0 A3T;have vb:=A0 A1Z;have vc:=A0 A7I;have vd:=A0 A7J;have ve:=A0 A7K;have vs:=A0 A0G;have vm:=A0 A0F;have vi:=A0 A1g;have vg:=A0 A1f;have vt:=A0 V8;have AZ:=A0 B7B;clear h hR hK;go_wp2_with fail
 refine(vu.out _ _).mono ?_;rintro e wx ⟨rfl,rfl⟩;go_wp2_with fail
 refine(va.out _ _ _).mono ?_;rintro e wx ⟨rfl,rfl⟩;have AB:=A0 (L4 u1 (.pointer (some ⟨pb,0,none⟩)) tr 268 32 247 _ (At.get_user HR.out.ok HS.out.at) HR.out.ok.user (by omega));have z:=HS.out.hz 7;have hc:=HS.out.hc 7 _ rfl;go_wp2_with fail
 refine AB.out.mono ?_;rintro e wx ⟨rfl,rfl⟩;go_wp2_with fail
 have AC:Hid (Z9 tr r AI AA AH B pb hb ({A2V B V with user:=D4 B.user}:Hd) v0 (u1.setCell ⟨hb,7,none⟩ (str (D4 B.user)))):=A0 (HS.out.set 7 _ _ rfl);clear AB HS z hc;have HS:=AC;clear AC;generalize (u1.setCell ⟨hb,7,none⟩ (str (D4 B.user)))=u2 at*;refine(vb.out _ _ _).mono ?_;rintro e wx ⟨rfl,rfl⟩;have AB:=A0 (L4 u2 (.pointer (some ⟨pb,0,none⟩)) tr 300 32 215 _ (At.get_group HR.out.ok HS.out.at) HR.out.ok.group (by omega));have z:=HS.out.hz 8;have hc:=HS.out.hc 8 _ rfl;go_wp2_with fail
 refine AB.out.mono ?_;rintro e wx ⟨rfl,rfl⟩;go_wp2_with fail
 have AC:Hid (Z9 tr r AI AA AH B pb hb ({A2V B V with user:=D4 B.user,group:=D4 B.group}:Hd) v0 (u2.setCell ⟨hb,8,none⟩ (str (D4 B.group)))):=A0 (HS.out.set 8 _ _ rfl);clear AB HS z hc;have HS:=AC;clear AC;generalize (u2.setCell ⟨hb,8,none⟩ (str (D4 B.group)))=u3 at*;refine(vc.out _ _ _).mono ?_;rintro e wx ⟨rfl,rfl⟩;have AB:=A0 (N7 u3 (.pointer (some ⟨pb,0,none⟩)) tr 332 8 183 _ _ HR.out.maj (At.get_maj HR.out.ok HS.out.at) HR.out.ok.maj (by omega) (by omega) (by omega));go_wp2_with fail
 refine AB.out.mono ?_;rintro e q ⟨rfl,AO⟩;have HQ:=A0 (HS.out.below AO);clear AO HS;have HS:=HQ;clear HQ;have z:=HS.out.hz 15;have hc:=HS.out.hc 15 _ rfl;go_wp2_with fail
 have AC:Hid (Z9 tr r AI AA AH B pb hb ({A2V B V with user:=D4 B.user,group:=D4 B.group,maj:=V.maj}:Hd) v0 (q.setCell ⟨hb,15,none⟩ (.int .i64 V.maj))):=A0 (HS.out.set 15 _ _ rfl);clear AB HS z hc;have HS:=AC;clear AC;generalize (q.setCell ⟨hb,15,none⟩ (.int .i64 V.maj))=u4 at*;refine(vd.out _ _ _).mono ?_;rintro e wx ⟨rfl,rfl⟩;have AB:=A0 (N7 u4 (.pointer (some ⟨pb,0,none⟩)) tr 340 8 175 _ _ HR.out.mnr (At.get_mnr HR.out.ok HS.out.at) HR.out.ok.mnr (by omega) (by omega) (by omega));go_wp2_with fail
 refine AB.out.mono ?_;rintro e q ⟨rfl,AO⟩;have HQ:=A0 (HS.out.below AO);clear AO HS;have HS:=HQ;clear HQ;have z:=HS.out.hz 16;have hc:=HS.out.hc 16 _ rfl;go_wp2_with fail
 have AC:Hid (Z9 tr r AI AA AH B pb hb ({A2V B V with user:=D4 B.user,group:=D4 B.group,maj:=V.maj,mnr:=V.mnr}:Hd) v0 (q.setCell ⟨hb,16,none⟩ (.int .i64 V.mnr))):=A0 (HS.out.set 16 _ _ rfl);clear AB HS z hc;have HS:=AC;clear AC;generalize (q.setCell ⟨hb,16,none⟩ (.int .i64 V.mnr))=u5 at*;refine(AZ.out _).mono ?_;rintro e wx ⟨rfl,rfl⟩;have z:=HS.out.hz 19;have hc:=HS.out.hc 19 _ rfl;go_wp2_with fail
 have AC:Hid (Z9 tr r AI AA AH B pb hb ({A2V B V with user:=D4 B.user,group:=D4 B.group,maj:=V.maj,mnr:=V.mnr,fmt:=6}:Hd) v0 (u5.setCell ⟨hb,19,none⟩ (.int .i64 6))):=A0 (HS.out.set 19 _ _ rfl);clear HS z hc;have HS:=AC;clear AC;generalize (u5.setCell ⟨hb,19,none⟩ (.int .i64 6))=q at*;refine(vu.out _ _).mono ?_;rintro e wx ⟨rfl,rfl⟩;go_wp2_with fail
 refine(ve.out _ _ _).mono ?_;rintro e wx ⟨rfl,rfl⟩;have AB:=A0 (L4 q (.pointer (some ⟨pb,0,none⟩)) tr 348 155 167 _ (At.get_pre HR.out.ok HS.out.at) (by rw[List.length_take,HR.out.ok.rest];rfl) (by omega));go_wp2_with fail
 refine AB.out.mono ?_;rintro e wx ⟨rfl,rfl⟩;clear AB;have AU:=A0 (B0j q tr 3 512 512 B.bytes HS.out.at HR.out.ok.len (by omega) HR.out.low (by omega));go_wp2_with fail
 refine AU.out.mono ?_;rintro e wx ⟨rfl,rfl⟩;clear AU;have AL:=A0 (A1M q tr 127 11 388 _ (At.get_size HR.out.ok HS.out.at) HR.out.ok.size HR.out.zsize (by omega));have AJ:=A0 (A1M q tr 103 7 412 _ (At.get_mode HR.out.ok HS.out.at) HR.out.ok.mode HR.out.zmode (by omega));have AT:=A0 (A1M q tr 111 7 404 _ (At.get_uid HR.out.ok HS.out.at) HR.out.ok.uid HR.out.zuid (by omega));have AQ:=A0 (A1M q tr 119 7 396 _ (At.get_gid HR.out.ok HS.out.at) HR.out.ok.gid HR.out.zgid (by omega));have AE:=A0 (A1M q tr 139 11 376 _ (At.get_mtime HR.out.ok HS.out.at) HR.out.ok.mtime HR.out.zmtime (by omega));have AR:=A0 (A1M q tr 332 7 183 _ (At.get_maj HR.out.ok HS.out.at) HR.out.ok.maj HR.out.zmaj (by omega));have AS:=A0 (A1M q tr 340 7 175 _ (At.get_mnr HR.out.ok HS.out.at) HR.out.ok.mnr HR.out.zmnr (by omega));have AP:D4 (B.rest.take 155)=A0x B:=rfl;rw[AP];clear AP;go_wp2_with fail
 refine(vs.out _ _ _).mono ?_;rintro e wx ⟨rfl,rfl⟩;go_wp2_with fail
 refine AL.out.mono ?_;rintro e wx ⟨rfl,rfl⟩;clear AL;go_wp2_with fail
 refine(vm.out _ _ _).mono ?_;rintro e wx ⟨rfl,rfl⟩;go_wp2_with fail
 refine AJ.out.mono ?_;rintro e wx ⟨rfl,rfl⟩;clear AJ;go_wp2_with fail
 refine(vi.out _ _ _).mono ?_;rintro e wx ⟨rfl,rfl⟩;go_wp2_with fail
 refine AT.out.mono ?_;rintro e wx ⟨rfl,rfl⟩;clear AT;go_wp2_with fail
 refine(vg.out _ _ _).mono ?_;rintro e wx ⟨rfl,rfl⟩;go_wp2_with fail
 refine AQ.out.mono ?_;rintro e wx ⟨rfl,rfl⟩;clear AQ;go_wp2_with fail
 refine(vt.out _ _ _).mono ?_;rintro e wx ⟨rfl,rfl⟩;go_wp2_with fail
 refine AE.out.mono ?_;rintro e wx ⟨rfl,rfl⟩;clear AE;go_wp2_with fail
 refine(vc.out _ _ _).mono ?_;rintro e wx ⟨rfl,rfl⟩;go_wp2_with fail
 refine AR.out.mono ?_;rintro e wx ⟨rfl,rfl⟩;clear AR;go_wp2_with fail
 refine(vd.out _ _ _).mono ?_;rintro e wx ⟨rfl,rfl⟩;go_wp2_with fail
 refine AS.out.mono ?_;rintro e wx ⟨rfl,rfl⟩;clear AS;have h1:=HS.out.hc 1 (str (D4 B.name)) rfl;have z1:=HS.out.hz 1;by_cases AM:A0x B=[]
 ·rw[AM]
  have AD:Z9 tr r AI AA AH B pb hb (O7 B V) v0 q:=by
   have e:O7 B V=({A2V B V with user:=D4 B.user,group:=D4 B.group,maj:=V.maj,mnr:=V.mnr,fmt:=6}:Hd):=by unfold O7 A0U;rw[if_pos AM];rfl
   rw[e];exact HS.out
  have AG:=A0 AD;have hP:=HS.out.P;clear AD h1 z1 HS AM;go_wp2_with fail
  go_quiet (fail)
  go_wp2_with fail
  refine bodyPost_ret (results_tmp3 rfl _ _ _) rfl ?_;exact HK.out _ (AG.out.below (bdn (Below.refl _ _) _))
 ·have AY: (0:Int)< (A0x B).length:=by have:=List.length_pos_iff.2 AM;omega
  have AD:Z9 tr r AI AA AH B pb hb (O7 B V) v0 (q.setCell ⟨hb,1,none⟩ (str (A0U B))):=HS.out.set 1 (str (A0U B)) (O7 B V) rfl
  have AV:Value.string ({data:=(A0x B).toArray}++ {data:=#[47]}++ {data:=(D4 B.name).toArray})=str (A0U B):=by
   unfold A0U;rw[if_neg AM];show Value.string _=Value.string _
   congr 1
   apply ByteArray.ext;simp[ByteArray.data_append]
  have Ab: (A0x B).length<=155:=by unfold A0x D4;rw[List.length_take,List.length_take];omega
  have Aa: (D4 B.name).length<=100:=by unfold D4;rw[List.length_take,HR.out.ok.name];omega
  have AG:=A0 AD;have hP:=AG.out.P;have AX:=A0 AV;clear AD HS AM AV;generalize A0x B=Ac at*;go_wp2_with fail
  rw[AX.out];go_quiet (fail)
  go_wp2_with fail
  refine bodyPost_ret (results_tmp3 rfl _ _ _) rfl ?_;exact HK.out _ (AG.out.below (bdn (Below.refl _ _) _))
theorem rh1 (tr r:Nat) (AG:Int) (AB AE:Value) (B:C1) (V:RdV) (pb hb:Nat) (v0 u0:World) (hR:RdF B V) (h:Z9 tr r AG AB AE B pb hb Hd.nil v0 u0)
  (R:Ending->World->Prop) (hK:∀w',Z9 tr r AG AB AE B pb hb (O7 B V) v0 w'->R (.returned (.tuple #[.pointer (some ⟨hb,0,none⟩),.pointer (some ⟨tr,3,none⟩),.nilIface])) w') {c1 c2 c3 c4 c5 c6 c7 c8 nU kL kM kO kP kQ kR kS c20 c21 kT kU kV kW kX kY kZ lB lC lD lE lF lG lH lI c37 lJ lL lM lO lP lQ lR lS c46 lT lU lV lW c51 lX c53 lY lZ mA mB mC mD mE mF mG mH mI mJ mL mM mO mP mQ mR mS mT mU c75 mV mW mX mY c80 mZ nA nB nC c85 nD nE nF nG nH nI nJ nL nM nO nP nQ nS nT aA aB aC aD aF aG aH aI aJ aK aL aM aN aO aP aQ aR aS aT aU aV aW aX aY aZ bB bC c127 bD bE bF bG bH bI bJ bK bL bM bN bO bP bQ bR c143 bS c145 bT bU bV bW bX bY bZ cA cB cC cD cE cF cG cH cI cJ cL cM cO cP c167 c168 cQ cS c171 cT c173 cU c175 cV cW cX cY cZ dA dB dC dD dE dF dG dH dI dJ dL dM dO dP dQ dR dS dT dU dV dW dX dY dZ eA eC eD eH eJ c210 eK c212 c213 eO eR eS eV eW eX eY eZ fA fB fC fD fE fH fI fJ fK fL c232 c233 fN fO fP fQ fR fS fT fU fV fW fX fY fZ gA gB gC gD gE gF gG gH gI gJ gK gL gM gN gO gP gQ gR gT gU gW gX gY gZ hJ hZ iA iB iC iD iE iF iG iH iI iJ iK iL iM iN iO iP iQ iR iS iT iU iV iW iX iY iZ jA jB jC jD jE jF jG jH jI jJ jK jL jM jN jO jP jQ jR jS jT jU jV jW jX jY jZ kA kB kC kD kE kF kG kH kI kJ:Value}:
  Code.wp Tryz.prog B3H (bodyPost Tryz.prog Tryz.f148 R) ⟨(.pointer (some ⟨tr,0,none⟩)::c1::c2::c3::c4::c5::c6::c7::c8::.int .i64 6::.pointer (some ⟨pb,0,none⟩)::.pointer (some ⟨hb,0,none⟩)::nU::kL::kM::kO::kP::kQ::kR::kS::c20::c21::kT::kU::kV::kW::kX::kY::kZ::lB::lC::lD::lE::lF::lG::lH::lI::c37::lJ::lL::lM::lO::lP::lQ::lR::lS::c46::lT::lU::lV::lW::c51::lX::c53::lY::lZ::mA::mB::mC::mD::mE::mF::mG::mH::mI::mJ::mL::mM::mO::mP::mQ::mR::mS::mT::mU::c75::mV::mW::mX::mY::c80::mZ::nA::nB::nC::c85::nD::nE::nF::nG::nH::nI::nJ::nL::nM::nO::nP::nQ::nS::nT::aA::aB::aC::aD::aF::aG::aH::aI::aJ::aK::aL::aM::aN::aO::aP::aQ::aR::aS::aT::aU::aV::aW::aX::aY::aZ::bB::bC::c127::bD::bE::bF::bG::bH::bI::bJ::bK::bL::bM::bN::bO::bP::bQ::bR::c143::bS::c145::bT::bU::bV::bW::bX::bY::bZ::cA::cB::cC::cD::cE::cF::cG::cH::cI::cJ::cL::cM::cO::cP::c167::c168::cQ::cS::c171::cT::c173::cU::c175::cV::cW::cX::cY::cZ::dA::dB::dC::dD::dE::dF::dG::dH::dI::dJ::dL::dM::dO::dP::dQ::dR::dS::dT::dU::dV::dW::dX::dY::dZ::eA::eC::eD::eH::eJ::c210::eK::c212::c213::eO::eR::eS::eV::eW::eX::eY::eZ::fA::fB::fC::fD::fE::fH::fI::fJ::fK::fL::c232::c233::fN::fO::fP::fQ::fR::fS::fT::fU::fV::fW::fX::fY::fZ::gA::gB::gC::gD::gE::gF::gG::gH::gI::gJ::gK::gL::gM::gN::gO::gP::gQ::gR::gT::gU::gW::gX::gY::gZ::hJ::hZ::iA::iB::iC::iD::iE::iF::iG::iH::iI::iJ::iK::iL::iM::iN::iO::iP::iQ::iR::iS::iT::iU::iV::iW::iX::iY::iZ::jA::jB::jC::jD::jE::jF::jG::jH::jI::jJ::jK::jL::jM::jN::jO::jP::jQ::jR::jS::jT::jU::jV::jW::jX::jY::jZ::kA::kB::kC::kD::kE::kF::kG::kH::kI::kJ::[]).toArray,[]⟩ u0:=by
 conv=>arg 2;whnf
 have HS:=A0 h;have HR:=A0 hR;have HK:=A0 hK;have vu:=A0 A5Z;have AL:=A0 A3t;have va:=A0 A0q;have vb:=A0 A1a;have vc:=A0 A0G;have vd:=A0 A0F;have ve:=A0 A1g;have vf:=A0 A1f;have vg:=A0 V8;clear h hR hK;go_wp2_with fail
 refine(vu.out _ _).mono ?_;rintro e wx ⟨rfl,rfl⟩;go_wp2_with fail
 refine(AL.out _ _ _).mono ?_;rintro e wx ⟨rfl,rfl⟩;have z:=HS.out.hz 0;have hc:=HS.out.hc 0 _ rfl;have ht:=W7 (At.get_typ HR.out.ok HS.out.at) 0 (by rw[HR.out.ok.typ];omega);rw[List.getD_eq_getElem?_getD] at ht;go_wp2_with fail
 have AA:Hid (Z9 tr r AG AB AE B pb hb ({Hd.nil with typ:=J9 B}:Hd) v0 (u0.setCell ⟨hb,0,none⟩ (.int .u8 (B.typ[0]?.getD 0).toNat))):=A0 (HS.out.set 0 _ _ rfl);clear HS z hc ht;have HS:=AA;clear AA;generalize (u0.setCell ⟨hb,0,none⟩ (.int .u8 (B.typ[0]?.getD 0).toNat))=u1 at*;refine(va.out _ _ _).mono ?_;rintro e wx ⟨rfl,rfl⟩;have AC:=A0 (L4 u1 (.pointer (some ⟨pb,0,none⟩)) tr 3 100 512 _ (At.get_name HR.out.ok HS.out.at) HR.out.ok.name (by omega));have z:=HS.out.hz 1;have hc:=HS.out.hc 1 _ rfl;go_wp2_with fail
 refine AC.out.mono ?_;rintro e wx ⟨rfl,rfl⟩;go_wp2_with fail
 have AA:Hid (Z9 tr r AG AB AE B pb hb ({Hd.nil with typ:=J9 B,name:=D4 B.name}:Hd) v0 (u1.setCell ⟨hb,1,none⟩ (str (D4 B.name)))):=A0 (HS.out.set 1 _ _ rfl);clear AC HS z hc;have HS:=AA;clear AA;generalize (u1.setCell ⟨hb,1,none⟩ (str (D4 B.name)))=u2 at*;refine(vb.out _ _ _).mono ?_;rintro e wx ⟨rfl,rfl⟩;have AC:=A0 (L4 u2 (.pointer (some ⟨pb,0,none⟩)) tr 160 100 355 _ (At.get_link HR.out.ok HS.out.at) HR.out.ok.link (by omega));have z:=HS.out.hz 2;have hc:=HS.out.hc 2 _ rfl;go_wp2_with fail
 refine AC.out.mono ?_;rintro e wx ⟨rfl,rfl⟩;go_wp2_with fail
 have AA:Hid (Z9 tr r AG AB AE B pb hb ({Hd.nil with typ:=J9 B,name:=D4 B.name,link:=D4 B.link}:Hd) v0 (u2.setCell ⟨hb,2,none⟩ (str (D4 B.link)))):=A0 (HS.out.set 2 _ _ rfl);clear AC HS z hc;have HS:=AA;clear AA;generalize (u2.setCell ⟨hb,2,none⟩ (str (D4 B.link)))=u3 at*;refine(vc.out _ _ _).mono ?_;rintro e wx ⟨rfl,rfl⟩;have AC:=A0 (N7 u3 (.pointer (some ⟨pb,0,none⟩)) tr 127 12 388 _ _ HR.out.size (At.get_size HR.out.ok HS.out.at) HR.out.ok.size (by omega) (by omega) (by omega));go_wp2_with fail
 refine AC.out.mono ?_;rintro e q ⟨rfl,AD⟩;have HQ:=A0 (HS.out.below AD);clear AD HS;have HS:=HQ;clear HQ;have z:=HS.out.hz 3;have hc:=HS.out.hc 3 _ rfl;go_wp2_with fail
 have AA:Hid (Z9 tr r AG AB AE B pb hb ({Hd.nil with typ:=J9 B,name:=D4 B.name,link:=D4 B.link,size:=V.size}:Hd) v0 (q.setCell ⟨hb,3,none⟩ (.int .i64 V.size))):=A0 (HS.out.set 3 _ _ rfl);clear AC HS z hc;have HS:=AA;clear AA;generalize (q.setCell ⟨hb,3,none⟩ (.int .i64 V.size))=u4 at*;refine(vd.out _ _ _).mono ?_;rintro e wx ⟨rfl,rfl⟩;have AC:=A0 (N7 u4 (.pointer (some ⟨pb,0,none⟩)) tr 103 8 412 _ _ HR.out.mode (At.get_mode HR.out.ok HS.out.at) HR.out.ok.mode (by omega) (by omega) (by omega));go_wp2_with fail
 refine AC.out.mono ?_;rintro e q ⟨rfl,AD⟩;have HQ:=A0 (HS.out.below AD);clear AD HS;have HS:=HQ;clear HQ;have z:=HS.out.hz 4;have hc:=HS.out.hc 4 _ rfl;go_wp2_with fail
 have AA:Hid (Z9 tr r AG AB AE B pb hb ({Hd.nil with typ:=J9 B,name:=D4 B.name,link:=D4 B.link,size:=V.size,mode:=V.mode}:Hd) v0 (q.setCell ⟨hb,4,none⟩ (.int .i64 V.mode))):=A0 (HS.out.set 4 _ _ rfl);clear AC HS z hc;have HS:=AA;clear AA;generalize (q.setCell ⟨hb,4,none⟩ (.int .i64 V.mode))=u5 at*;refine(ve.out _ _ _).mono ?_;rintro e wx ⟨rfl,rfl⟩;have AC:=A0 (N7 u5 (.pointer (some ⟨pb,0,none⟩)) tr 111 8 404 _ _ HR.out.uid (At.get_uid HR.out.ok HS.out.at) HR.out.ok.uid (by omega) (by omega) (by omega));go_wp2_with fail
 refine AC.out.mono ?_;rintro e q ⟨rfl,AD⟩;have HQ:=A0 (HS.out.below AD);clear AD HS;have HS:=HQ;clear HQ;have z:=HS.out.hz 5;have hc:=HS.out.hc 5 _ rfl;go_wp2_with fail
 have AA:Hid (Z9 tr r AG AB AE B pb hb ({Hd.nil with typ:=J9 B,name:=D4 B.name,link:=D4 B.link,size:=V.size,mode:=V.mode,uid:=V.uid}:Hd) v0 (q.setCell ⟨hb,5,none⟩ (.int .i64 V.uid))):=A0 (HS.out.set 5 _ _ rfl);clear AC HS z hc;have HS:=AA;clear AA;generalize (q.setCell ⟨hb,5,none⟩ (.int .i64 V.uid))=u6 at*;refine(vf.out _ _ _).mono ?_;rintro e wx ⟨rfl,rfl⟩;have AC:=A0 (N7 u6 (.pointer (some ⟨pb,0,none⟩)) tr 119 8 396 _ _ HR.out.gid (At.get_gid HR.out.ok HS.out.at) HR.out.ok.gid (by omega) (by omega) (by omega));go_wp2_with fail
 refine AC.out.mono ?_;rintro e q ⟨rfl,AD⟩;have HQ:=A0 (HS.out.below AD);clear AD HS;have HS:=HQ;clear HQ;have z:=HS.out.hz 6;have hc:=HS.out.hc 6 _ rfl;go_upto_region 24 with fail
 rename_i K1 AH;have AI:=A0 AH;clear AH;have AA:Hid (Z9 tr r AG AB AE B pb hb ({Hd.nil with typ:=J9 B,name:=D4 B.name,link:=D4 B.link,size:=V.size,mode:=V.mode,uid:=V.uid,gid:=V.gid}:Hd) v0 (q.setCell ⟨hb,6,none⟩ (.int .i64 V.gid))):=A0 (HS.out.set 6 _ _ rfl);clear AC HS z hc;have HS:=AA;clear AA;generalize (q.setCell ⟨hb,6,none⟩ (.int .i64 V.gid))=u7 at*;go_wp2_with fail
 refine(vg.out _ _ _).mono ?_;rintro e wx ⟨rfl,rfl⟩;have AC:=A0 (N7 u7 (.pointer (some ⟨pb,0,none⟩)) tr 139 12 376 _ _ HR.out.mtime (At.get_mtime HR.out.ok HS.out.at) HR.out.ok.mtime (by omega) (by omega) (by omega));go_wp2_with fail
 refine AC.out.mono ?_;rintro e q ⟨rfl,AD⟩;have HQ:=A0 (HS.out.below AD);clear AD HS;have HS:=HQ;clear HQ;have hv:=HR.out.mtime.lt;have HT:=A0 (tOf q (V.mtime:Int) 0 (by omega) (by omega) (by omega));clear hv;go_wp2_with fail
 refine HT.out.mono ?_;rintro e q2 ⟨rfl,AD⟩;have HQ:=A0 (HS.out.below AD);clear AD HS HT;have HS:=HQ;clear HQ;have z2:=HS.out.hz 10;have AJ:=HS.out.hc 10 _ rfl;have z:=HS.out.hz 9;have hc:=HS.out.hc 9 _ rfl;go_wp2_with fail
 have AA:Hid (Z9 tr r AG AB AE B pb hb ({Hd.nil with typ:=J9 B,name:=D4 B.name,link:=D4 B.link,size:=V.size,mode:=V.mode,uid:=V.uid,gid:=V.gid,mx:=V.mtime+62135596800}:Hd) v0 ((q2.setCell ⟨hb,9,none⟩ (.int .u64 0)).setCell ⟨hb,10,none⟩ (.int .i64 (V.mtime+62135596800)))):=A0 ((HS.out.set 9 (.int .u64 0) ({Hd.nil with typ:=J9 B,name:=D4 B.name,link:=D4 B.link,size:=V.size,mode:=V.mode,uid:=V.uid,gid:=V.gid}:Hd) rfl).set 10 (.int .i64 (V.mtime+62135596800)) _ rfl);clear z2 AJ;clear AC HS z hc;have HS:=AA;clear AA;generalize ((q2.setCell ⟨hb,9,none⟩ (.int .u64 0)).setCell ⟨hb,10,none⟩ (.int .i64 (V.mtime+62135596800)))=u8 at*;refine AI.out _ _ ?_;exact rh2 tr r AG AB AE B V pb hb v0 _ HR.out HS.out R HK.out
theorem TR.seg {tr r:Nat} {AC:Int} {AA AB:Value} {l:List UInt8} {w:World} (h:TR tr r AC AA (Lib.byteCells l) AB w):
  E4 w tr 152 [.iface 84 (.pointer (some ⟨r,0,none⟩)),.int .i64 AC,AA] l [AB]:=by
 have:=h.1;unfold E4;rw[this];simp[N8]
def B1o (tr r g n c i:Nat) (AC:Int) (AA AB:Value) (B:C1) (H:Hd) (w:World) (e:Ending) (w':World):Prop:=
 ∃hb,e= .returned (.tuple #[.pointer (some ⟨hb,0,none⟩),.pointer (some ⟨tr,3,none⟩),.nilIface])/\w'.heap[hb]?=some (.cells H.cells.toArray 130 (0,0))/\RD r g n c (i+512) w'/\TR tr r AC AA (Lib.byteCells B.bytes) AB w'/\Fr w.heap.size [r,tr] w w'/\w.heap.size<=hb
theorem A7U {B:C1} (hR:RdB B): (B.bytes==List.replicate 512 0)=false:=by
 rw[beq_eq_false_iff_ne];intro e
 have h1:B.bytes[257]?=some 117:=by
  rw[C1.at_magic,List.getElem?_append_right (by rw[hR.ok.bef_magic];omega),hR.ok.bef_magic,hR.magic];rfl
 rw[e,List.getElem?_replicate,if_pos (by omega)] at h1;cases h1
theorem A9S (w:World) (tr r g n c i:Nat) (AD:Int) (AA AB:Value) (bs:List UInt8) (AQ:List Value) (B:C1) (V:RdV) (hR:RdF B V) (h:RD r g n c i w) (ht:TR tr r AD AA AQ AB w) (hi:i+512<=n) (AG:n<4611686018427387904) (AZ:n<=c)
  (hb:bs.length=n) (AC:At w g 0 (Lib.byteCells bs)) (AU:g∉[r,tr]) (hB: (bs.drop i).take 512=B.bytes):
  Calls Tryz.prog 148 #[.pointer (some ⟨tr,0,none⟩)] w (B1o tr r g n c i AD AA AB B (O7 B V) w):=by
 have AY:g≠r:=by simp at AU;exact AU.1
 have HC:=A2I w.drew tr r g n c i AD AA AB bs AQ h ht (by omega) AG AZ hb AC AY;unfold A4h at HC;rw[hB] at HC;have HC:=A0 HC;obtain⟨c0,-⟩:=O4 ht.2 ht.1;have HR:=A0 hR;clear hR h ht AC;go_enter Tryz.func148,Tryz.ntmps148
 go_wp2_with fail
 go_region_held3 (λw'=>w'.cell? ⟨tr,0,none⟩=some (.iface 84 (.pointer (some ⟨r,0,none⟩)))) (first|go_keep|assumption) (first|(go_at_call 196;refine HC.out.mono ?_;rintro e w1 ⟨rfl,h2,h3,h4⟩;obtain⟨d0,-⟩:=O4 h3.2 h3.1))
 go_wp2_with fail
 have ha1:=h3.at;have hz:=A7U HR.out.toRdB;have HE:=A1K (w1.alloc (.cells Tryz.zeroCells132 132)).drew tr 3 512 512 w1.heap.size 0 512 512 B.bytes (List.replicate 512 0) (ha1.carry (Below.heap_alloc w1 _ tr (A8 h3.1))) (A3F w1) HR.out.ok.len (by simp);rw[hz] at HE;have HE:=A0 HE;clear ha1 hz;go_region_held3 (λ_=>True) (trivial) (first|(go_at_call 197;refine HE.out.mono ?_;rintro e w2 ⟨rfl,rfl⟩))
 have AR:Fr w.heap.size [r,tr] w (w1.alloc (.cells Tryz.zeroCells132 132)).drew:=(((Fr.refl _ _ w).drew.trans h4).alloc _).drew;have AH:TR tr r AD AA (Lib.byteCells B.bytes) AB (w1.alloc (.cells Tryz.zeroCells132 132)).drew:=⟨(Below.heap_alloc w1 _ tr (A8 h3.1)).trans h3.1,h3.2⟩;have AV:RD r g n c (i+512) (w1.alloc (.cells Tryz.zeroCells132 132)).drew:=h2.alloc _;clear d0 h2 h3 h4 HE HC c0;generalize (w1.alloc (.cells Tryz.zeroCells132 132)).drew=w2 at*;have AL:=A0 (B0i w2 tr 3 152 _ _ B HR.out.toRdB AH.seg rfl);have AI:=A0 AR;have AO:=A0 AH;have AM:=A0 AV;clear AR AH AV;go_wp2_with fail
 refine AL.out.mono ?_;rintro e w3 ⟨rfl,AE⟩;have AJ:=A0 (AI.out.trans (Fr.of_below AE w.heap.size [r,tr]));have AP:=A0 (AO.out.below AE);have AX:=A0 (AM.out.below AE);clear AL AI AO AM AE;go_upto_region 15 with fail
 rename_i K1 AS;have AW:=A0 AS;clear AS;go_wp2_with fail
 refine AW.out _ _ ?_;have Aa:w.heap.size<=w3.heap.size:=AJ.out.size;have AT:Below w3.heap.size w3 ((w3.alloc (.cells #[.nilIface] 231)).alloc (.cells Hd.nil.cells.toArray 130)):=((Below.refl _ w3).alloc (Nat.le_refl _) _).alloc (by simp) _;refine rh1 tr r AD AA AB B V w3.heap.size (w3.heap.size+1) w3 _ HR.out ?_ _ (λw' hS=> ?_)
 ·refine⟨AP.out.below AT,?_,?_,AT,by omega,by omega,A8 AP.out.1⟩
  ·rw[Lib.cell_of_heap (heap_alloc2_old w3 _ _)];rfl
  ·exact heap_alloc2_new w3 _ _
 ·refine⟨w3.heap.size+1,rfl,hS.Hh,AX.out.below hS.F,hS.T,AJ.out.trans (Fr.of_below hS.F _ _),by omega⟩
theorem Fr.thn {B B2:Nat} {S S2:List Nat} {a b c:World} (h:Fr B S a b) (k:Fr B2 S2 b c) (hB:B<=B2) (hS:∀q∈S2,q∈S\/a.heap.size<=q):Fr B S a c:=
 ⟨k.os.trans h.os,k.tape.trans h.tape,k.output.trans h.output,Nat.le_trans h.size k.size,λi o hi hn hb=>k.block i o (h.block i o hi hn hb) (λhm=>by
  rcases hS i hm with h|h
  ·exact hn h
  ·have:=A8 hi;omega) (λAA=>hb (Nat.le_trans hB AA))⟩
structure NB (tr r g fb:Nat) (pu pp pg:Bool) (bs:List UInt8) (aE:Addr) (v0 w:World):Prop where
 S:At w g 0 (Lib.byteCells bs)
 E:w.cell? ⟨0,0,none⟩=some (I7 aE)
 C:w.heap[fb]?=some (.cells #[.int .i64 (fm pu pp pg)] 128 (0,0))
 G:Fr v0.heap.size [r,tr] v0 w
 lfb:v0.heap.size<=fb
 gS:g∉[r,tr]
 zS:0∉[r,tr]
 rl:r<v0.heap.size
 tl:tr<v0.heap.size
 gl:g<v0.heap.size
 zl:0<v0.heap.size
theorem NB.step {tr r g fb:Nat} {pu pp pg:Bool} {bs:List UInt8} {aE:Addr} {v0 w w':World} (h:NB tr r g fb pu pp pg bs aE v0 w) {S2:List Nat} (f:Fr w.heap.size S2 w w') (hS:∀k∈S2,k=r\/k=tr\/(v0.heap.size<=k/\k≠fb)):NB tr r g fb pu pp pg bs aE v0 w':=by
 have hg:=h.gS;have hz:=h.zS;have AA:=h.gl;have AE:=h.zl;have AC:=h.rl;have AD:=h.tl;have AB:=h.lfb;simp at hg hz;have n1:g∉S2:=λhm=>by rcases hS g hm with e|e|e<;>omega
 have n2:0∉S2:=λhm=>by rcases hS 0 hm with e|e|e<;>omega
 have n3:fb∉S2:=λhm=>by rcases hS fb hm with e|e|e<;>omega
 exact⟨h.S.frame f (Nat.le_refl _) n1,f.cell h.E n2 (block_lt_of_cell h.E),f.cells h.C n3 (.inr (by decide)),h.G.thn f h.G.size (λq hq=>by
  rcases hS q hq with e|e|e
  ·exact .inl (by simp[e])
  ·exact .inl (by simp[e])
  ·exact .inr e.1),h.lfb,h.gS,h.zS,h.rl,h.tl,h.gl,h.zl⟩
theorem NB.below {tr r g fb:Nat} {pu pp pg:Bool} {bs:List UInt8} {aE:Addr} {v0 w w':World} (h:NB tr r g fb pu pp pg bs aE v0 w) (f:Below w.heap.size w w'):NB tr r g fb pu pp pg bs aE v0 w':=
 h.step (S2:=[]) (Fr.of_below f _ _) (by simp)
theorem NB.setC {tr r g fb:Nat} {pu pp pg:Bool} {bs:List UInt8} {aE:Addr} {v0 w:World} (h:NB tr r g fb pu pp pg bs aE v0 w) (qu qp qg:Bool):NB tr r g fb qu qp qg bs aE v0 (w.setCell ⟨fb,0,none⟩ (.int .i64 (fm qu qp qg))):=by
 have AA:=h.gl;have AC:=h.zl;have AB:=h.lfb;have f:Fr w.heap.size [fb] w (w.setCell ⟨fb,0,none⟩ (.int .i64 (fm qu qp qg))):=(Fr.refl _ _ w).setCell (.inl (by simp)) _;refine⟨h.S.frame f (Nat.le_refl _) (by simp;omega),f.cell h.E (by simp;omega) (block_lt_of_cell h.E),?_,h.G.thn f h.G.size (λq hq=> .inr (by simp at hq;omega)),h.lfb,h.gS,h.zS,h.rl,h.tl,h.gl,h.zl⟩;have:=B6 (i:=0) (.int .i64 (fm qu qp qg)) h.C;simpa using this
theorem NB.offC {w:World} {fb k:Nat} {o:Obj} (hk:w.heap[k]?=some o) (AA:k≠fb) (v:Value): (w.setCell ⟨fb,0,none⟩ v).heap[k]?=some o:=(C0 (a:=⟨fb,0,none⟩) _ AA).trans hk
theorem A5J (rv AE AB AD:Value) (AC AA:List Value) (k:AC.length=512) (k2:AA.length<=512):
  splice (rv::AE::AB::(AC++[AD])) 3 AA=rv::AE::AB::((AA++AC.drop AA.length)++[AD]):=by
 simp only[splice,List.take_succ_cons,List.take_zero,List.cons_append,List.nil_append,List.append_assoc];rw[show 3+AA.length=AA.length+1+1+1 by omega];simp only[List.drop_succ_cons];rw[List.drop_append_of_le_length (by omega)]
theorem B4L (w:World) (tr r g n c i AA:Nat) (AB AH:Value) (bs:List UInt8) (AG:List Value) (aE:Addr) (pd:Int) (h:RD r g n c i w) (ht:TR tr r pd AB AG AH w) (hi:i+AA<=n) (hp:AA<512) (AD:n<4611686018427387904) (AL:n<=c)
  (hb:bs.length=n) (AE:At w g 0 (Lib.byteCells bs)) (AJ:g≠r) (hE:w.cell? ⟨0,0,none⟩=some (I7 aE)) (AI:0∉[r,tr]):
  Calls Tryz.prog 147 #[.iface 84 (.pointer (some ⟨r,0,none⟩)),.slice (some ⟨tr,3,none⟩) AA 512] w λe w'=>e= .returned (.tuple #[.int .i64 AA,.nilIface])/\RD r g n c (i+AA) w'/\(∃AC,TR tr r pd AB AC AH w')/\Fr w.heap.size [r,tr] w w':=by
 by_cases h0:AA=0
 ·subst h0
  refine(A1H w _ _ _ aE hE).mono ?_;rintro e w' ⟨rfl,rfl⟩;exact⟨rfl,h,⟨AG,ht⟩,Fr.refl _ _ _⟩
 ·have AM:tr≠r:=by
   obtain⟨p,hr⟩:=h;rintro rfl;rw[ht.1] at hr;cases hr
  refine(A3s w r g n c i tr 3 AA 512 bs _ 152 aE h (by omega) (by omega) (by omega) AD AL hb AE ht.1 (by simp[ht.2];omega) AM AJ hE AI).mono ?_;rintro e w' ⟨rfl,h2,h3,h4⟩;have hl: (Lib.byteCells ((bs.drop i).take AA)).length=AA:=by rw[Lib.byteCells_length,List.length_take,List.length_drop,hb];omega
  rw[A5J _ _ _ _ _ _ ht.2 (by omega)] at h3;refine⟨rfl,h2,⟨_,h3,?_⟩,h4⟩;rw[List.length_append,List.length_drop,hl,ht.2];omega
def A2B (n:Nat):Code->Option Code
 | .seq a b=>match A8x n a with
  |true=>some (.seq a b)
  |false=>match A2B n a with
   |some c=>some c
   |none=>A2B n b
 | .cond _ a b=>match A2B n a with
   |some c=>some c
   |none=>A2B n b
 | .block _ a=>A2B n a
 | .loop a=>A2B n a
 |_=>none
noncomputable def A4a:Code:=(A2B 4 (Tryz.f72.body.getD .skip)).getD .skip
noncomputable def A2c:Code:=(A2B 18 (Tryz.f72.body.getD .skip)).getD .skip
end Go.Proofs.YtkanmkcojlefbaaGreatDoor
