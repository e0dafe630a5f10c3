/-
  Part of the proof; holds the texts BrgG, RNL.
-/
import Derived.Test.YtkanmkcojlefbaaGreatDoorM34
set_option maxHeartbeats 8000000
set_option maxRecDepth 100000
set_option linter.unusedSimpArgs false
set_option linter.unusedVariables false
namespace Go.Proofs.YtkanmkcojlefbaaGreatDoor
open Go.RowKit
theorem A5D (u:Nat):∃d t,E3 u=d::t/\d≠0:=by
 have h1:E3 u≠ []:=by
  intro e;rw[E3] at e;split at e
  ·cases e
  ·simp at e
 obtain⟨d,t,e⟩:=List.exists_cons_of_ne_nil h1;refine⟨d,t,e,λhd=> ?_⟩;have:=A0m 2 u d (by rw[Y9];exact List.mem_append_right _ (by rw[e];exact List.mem_cons_self));rw[hd] at this;exact absurd this.1 (by decide)
theorem A5s (n u:Nat): (C2 n u).getD 0 0≠0:=by
 obtain⟨d,t,e,hd⟩:=A5D u;rw[C2,e];cases hk:n-1- (d::t).length with
 |zero=>simpa using hd
 |succ k=>simp[List.replicate_succ]
theorem A5r (n:Nat) (x:Int) (hn:n=8\/n=12) (hx:X5 n x): (D9 n x).getD 0 0≠0:=by
 unfold D9;split
 ·exact A5s _ _
 ·rename_i h
  intro e;have:=(A4s n x hn (hx.1.resolve_left h) hx.2.1 hx.2.2).1;rw[e] at this;split at this<;>exact absurd this (by decide)
theorem A6C (n x:Int) (hb: -100000000000000000<=x-62135596800/\x-62135596800<=100000000000000000):B3q (S3 n x) (if E5 n x then 0 else x):=by
 refine⟨A0J n x,?_⟩;unfold S3;split
 ·exact .inl ⟨rfl,rfl⟩
 ·have hx:X5 12 (x-62135596800):=X5.w12 (by omega) (by omega)
  exact .inr ⟨A5r 12 _ (.inr rfl) hx,A1i.num (.inr rfl) hx,hb.1,hb.2⟩
def gV (H:Hd):RdW:=⟨H.mode,H.uid,H.gid,H.size,H.sec,H.maj,H.mnr,if E5 H.aw H.ax then 0 else H.ax,if E5 H.cw H.cx then 0 else H.cx⟩
theorem A6f.rdg {H:Hd} {B:C1} (h:A6f H B) (hf:A5z H) (ht:H.InT):RdG B (gV H):=by
 have l1:=A0J H.aw H.ax;have l2:=A0J H.cw H.cx
 have e4:B.rest.drop 163=[0,0,0,0]:=by
  rw[h.rest,List.drop_append,List.drop_append,l1,List.drop_eq_nil_of_le (by omega),List.drop_eq_nil_of_le (by omega),l2];decide
 have ea:B.rest.take 12=S3 H.aw H.ax:=by rw[h.rest,List.take_left' l1]
 have ec: (B.rest.drop 12).take 12=S3 H.cw H.cx:=by rw[h.rest,List.drop_left' l1,List.take_left' l2]
 have hs: -100000000000000000<=H.sec/\H.sec<=100000000000000000:=by
  have:=ht.mx;unfold Hd.sec;split<;>omega
 have n8:∀ {f:List UInt8} {x:Int},f=D9 8 x->X5 8 x->A1i 8 f x:=λe hx=>by rw[e];exact A1i.num (.inl rfl) hx
 have AA:∀ {f:List UInt8} {x:Int},f=D9 12 x->X5 12 x->A1i 12 f x:=λe hx=>by rw[e];exact A1i.num (.inr rfl) hx
 exact⟨⟨h.ok,h.magic,h.ver,h.chk,e4⟩,n8 h.mode hf.mode,n8 h.uid hf.uid,n8 h.gid hf.gid,AA h.size hf.size,AA h.mtime (show X5 12 H.sec from X5.w12 (by omega) (by omega)),n8 h.maj hf.maj,n8 h.mnr hf.mnr,hs,by rw[ea];exact A6C _ _ ht.ax,by rw[ec];exact A6C _ _ ht.cx⟩
theorem A6A.rdg {AA:Int} {n:Nat} {B:C1} (h:A6A [117,115,116,97,114,32] [32,0] AA n B) (hn:n<8^11):RdG B ⟨0,0,0,n,0,0,0,0,0⟩:=by
 have z8:A1i 8 (C2 8 0) 0:= .inl ⟨Int.le_refl _,P8.field 8 0 (by decide) (by decide) (by decide)⟩;have AB:A1i 8 (List.replicate 8 0) 0:= .inl ⟨Int.le_refl _,P8.zero 8⟩;have t0:B3q (List.replicate 12 0) 0:=⟨rfl,.inl ⟨rfl,rfl⟩⟩;refine⟨⟨h.ok,h.magic,h.ver,h.chk,by rw[h.rest];decide⟩,by rw[h.mode];exact z8,by rw[h.uid];exact z8,by rw[h.gid];exact z8,?_,?_,by rw[h.maj];exact AB,by rw[h.mnr];exact AB,⟨by show-100000000000000000<=(0:Int);omega,by show(0:Int)<=100000000000000000;omega⟩,by rw[h.rest];exact t0,by rw[h.rest];exact t0⟩
 ·rw[h.size];exact .inl ⟨Int.natCast_nonneg _,P8.field 12 n (by decide) (by decide) hn⟩
 ·rw[h.mtime];exact .inl ⟨Int.le_refl _,P8.field 12 0 (by decide) (by decide) (by decide)⟩
theorem B2F (s:List UInt8) (hz: (0:UInt8)∉s):D4 (s++[0])=s:=A1o s [] 0 hz
theorem A6f.back {H:Hd} {B:C1} (h:A6f H B) (ht:0<=H.typ/\H.typ<256) (hz:E5 H.mw H.mx=false) (zn: (0:UInt8)∉H.name) (zl: (0:UInt8)∉H.link) (zu: (0:UInt8)∉H.user) (zg: (0:UInt8)∉H.group) (hu:H.user.length<=32) (hg:H.group.length<=32) (m0:H.mw=0) (a0:H.aw=0) (c0:H.cw=0)
  (nm lk:List UInt8) (hn: (H.name.length<=100/\nm=[])\/(100<H.name.length/\nm=H.name)) (hl: (H.link.length<=100/\lk=[])\/(100<H.link.length/\lk=H.link)):
  ({rdG B (gV H) with name:=if nm=[] then(rdG B (gV H)).name else nm,link:=if lk=[] then(rdG B (gV H)).link else lk}:Hd)= {H with xattr:= .map none,recs:= .map none,fmt:=8}:=by
 have e1:J9 B=H.typ:=by rw[J9,h.typ];exact typ_back _ ht
 have hm:H.sec+62135596800=H.mx:=by rw[Hd.sec,hz];simp
 have ha: (if E5 H.aw H.ax then 0 else H.ax)=H.ax:=by
  split
  ·rename_i e;exact(A2O e).2.symm
  ·rfl
 have hc: (if E5 H.cw H.cx then 0 else H.cx)=H.cx:=by
  split
  ·rename_i e;exact(A2O e).2.symm
  ·rfl
 have en: (if nm=[] then(rdG B (gV H)).name else nm)=H.name:=by
  rcases hn with ⟨h1,h2⟩|⟨h1,h2⟩
  ·rw[if_pos h2];exact U9 h.name zn h1
  ·rw[if_neg (by rw[h2];intro e;rw[e] at h1;simp at h1),h2]
 have el: (if lk=[] then(rdG B (gV H)).link else lk)=H.link:=by
  rcases hl with ⟨h1,h2⟩|⟨h1,h2⟩
  ·rw[if_pos h2];exact U9 h.link zl h1
  ·rw[if_neg (by rw[h2];intro e;rw[e] at h1;simp at h1),h2]
 rw[en,el];simp only[rdG,A2l,e1,U9 h.user zu hu,U9 h.group zg hg,gV,hm,ha,hc,Hd.nil];cases H
 simp_all
end Go.Proofs.YtkanmkcojlefbaaGreatDoor
namespace Go.Proofs.YtkanmkcojlefbaaGreatDoor
open Go.RowKit
variable {c1 c2 c3 c4 c5 c6 c8 c9 nH nI nJ nL nM nO nP nQ c20 c21 nS nT nU nV nW nX nY nZ oA oB oC oD oE oF oG c37 oH oI oJ oK oL oM oN oO c46 oQ oR oS oT c51 oU c53 oV oW oX oY oZ pA pB pC pD pE pF pG pH pI pJ pL pM pO pP pQ pR c75 pS pT pU pW c80 pX pY pZ qA c85 qB qC qD qE qF qG qH qI qJ qL qM qO qP qQ eR eS eV eW eX eY eZ fA fB fC fD fE fH fI fJ fK fL fN fO fP fQ fR fS fT fU fV fW c127 fX fY fZ gA gB gC gD gE gF gG gH gI gJ gK gL c143 gM c145 gN gO gP gQ gR gT gU gW gX gY gZ hJ hZ iA iB iC iD iE iF iG iH c167 c168 iI iJ c171 iK c173 iL c175 iM iN iO iP iQ iR iS iT iU iV iW iX iY iZ jA jB jC jD jE jF jG jH jI jJ jK jL jM jN:Value}
structure RdL (tr r g n c i fb fr:Nat) (pad:Int) (bs:List UInt8) (aE:Addr) (blk:List Value) (v0 w0 w:World):Prop where
 nbx:NB tr r g fb false false true bs aE v0 w
 Rd:RD r g n c i w
 T:TR tr r pad (.iface 146 (.pointer (some ⟨fr,0,none⟩))) blk .nilIface w
 F:FRd fr r 0 w
 le:w0.heap.size<=w.heap.size
 lfb:fb<w.heap.size
theorem At.lt' {w:World} {g o:Nat} {cs:List Value} (h:At w g o cs) (hc:0<cs.length):g<w.heap.size:=block_lt_of_cell (h 0 cs[0] (List.getElem?_eq_getElem hc))
theorem A2h {w:World} {B:Nat} {v:Value} {bs:List UInt8} {k:Nat} (h:w.ownsRow B 5 1 v k (Lib.byteCells bs)) (hk:0<k) (hl:bs.length=k):∃gg cap,v= .slice (some ⟨gg,0,none⟩) k cap/\k<=cap/\At w gg 0 (Lib.byteCells bs):=by
 obtain⟨h1,h2⟩:=h;rcases h2 with ⟨-,h0⟩|⟨gg,cap,cur,rfl,AB,hh,AA,hc,hs,ht⟩
 ·omega
 ·refine⟨gg,cap,rfl,AA,At.of_heap hh (λj v hj=> ?_)⟩
  rw[Nat.zero_add];rw[<-ht,Nat.mul_one,List.getElem?_take] at hj;split at hj
  ·rw[<-Array.getElem?_toList];exact hj
  ·cases hj
theorem B8g (tr r g n c i fb hb fr nb:Nat) (AJ:Int) (AH:List Value) (bs ds:List UInt8) (aE:Addr) (H:Hd) (v0 w:World) (AA:NB tr r g fb false false true bs aE v0 w) (h:RD r g n c i w) (hf:FRd fr r nb w) (ht:TR tr r AJ (.iface 146 (.pointer (some ⟨fr,0,none⟩))) AH .nilIface w) (hh:w.heap[hb]?=some (.cells H.cells.toArray 130 (0,0))) (Aq:v0.heap.size<=hb) (Ar:v0.heap.size<=fr)
  (AI:H.typ=76) (AR:nb<=1048576) (Al:i+nb<=n) (AP:n<4611686018427387904) (An:n<=c) (AO:bs.length=n) (hL: (bs.drop i).take nb=ds) (Am:0<nb)
  (Q:Exit->Act->World->Prop)
  (hQ:∀ (d1 d2 d3 d8 d9 jO jP jQ jR jS jT jU jV jW jX jY jZ kA kB kC kD kE kF kG kH kI kJ kL kM kO kP kQ kR kS kT kU kV kW kX kY kZ lB lC lD lE lF lG lH lI lJ lL lM lO lP lQ lR lS lT lU lV lW lX lY lZ mA mB mC mD mE mF mG mH mI mJ mL mM mO mP mQ mR mS mT mU mV mW mX mY mZ nA nB nC nD nE nF nG aA aB aC aD aF aG aH aI aJ aK aL aM aN aO aP aQ aR aS aT aU aV aW aX aY aZ bB bC bD bE bF bG bH bI bJ bK bL bM bN bO bP bQ bR bS bT bU bV bW bX bY bZ cA cB cC cD cE cF cG cH cI cJ cL cM cO cP cQ cS cT cU cV cW cX cY cZ dA dB dC dD dE dF dG dH dI dJ dL dM dO dP dQ dR dS dT dU dV dW dX dY dZ eA eC eD eH eJ eK eO:Value) (w':World),RdL tr r g n c (i+nb) fb fr AJ bs aE AH v0 w w'->Q (.exit 1) ⟨(.pointer (some ⟨tr,0,none⟩)::d1::d2::d3::c4::str (D4 ds)::c6::.pointer (some ⟨fb,0,none⟩)::d8::d9::jO::jP::jQ::jR::jS::jT::jU::jV::jW::jX::jY::jZ::kA::kB::kC::kD::kE::kF::kG::kH::kI::kJ::kL::kM::kO::kP::kQ::kR::kS::kT::kU::kV::kW::kX::kY::kZ::lB::lC::lD::lE::lF::lG::lH::lI::lJ::lL::lM::lO::lP::lQ::lR::lS::lT::lU::lV::lW::lX::lY::lZ::mA::mB::mC::mD::mE::mF::mG::mH::mI::mJ::mL::mM::mO::mP::mQ::mR::mS::mT::mU::mV::mW::mX::mY::mZ::nA::nB::nC::nD::nE::nF::nG::aA::aB::aC::aD::aF::aG::aH::aI::aJ::aK::aL::aM::aN::aO::aP::aQ::aR::aS::aT::aU::aV::aW::aX::aY::aZ::bB::bC::bD::bE::bF::bG::bH::bI::bJ::bK::bL::bM::bN::bO::bP::bQ::bR::bS::bT::bU::bV::bW::bX::bY::bZ::cA::cB::cC::cD::cE::cF::cG::cH::cI::cJ::cL::cM::cO::cP::cQ::cS::cT::cU::cV::cW::cX::cY::cZ::dA::dB::dC::dD::dE::dF::dG::dH::dI::dJ::dL::dM::dO::dP::dQ::dR::dS::dT::dU::dV::dW::dX::dY::dZ::eA::eC::eD::eH::eJ::eK::eO::[]).toArray,[]⟩ w'):
  Code.wp Tryz.prog A2c Q ⟨(.pointer (some ⟨tr,0,none⟩)::c1::c2::c3::c4::c5::c6::.pointer (some ⟨fb,0,none⟩)::c8::c9::nH::.pointer (some ⟨hb,0,none⟩)::.pointer (some ⟨tr,3,none⟩)::nI::nJ::nL::nM::nO::nP::nQ::c20::c21::nS::nT::nU::nV::nW::nX::nY::nZ::oA::oB::oC::oD::oE::oF::oG::c37::oH::oI::oJ::oK::oL::oM::oN::oO::c46::oQ::oR::oS::oT::c51::oU::c53::oV::oW::oX::oY::oZ::pA::pB::pC::pD::pE::pF::pG::pH::pI::pJ::pL::pM::pO::pP::pQ::pR::c75::pS::pT::pU::pW::c80::pX::pY::pZ::qA::c85::qB::qC::qD::qE::qF::qG::qH::qI::qJ::qL::qM::qO::qP::qQ::eR::eS::eV::eW::eX::eY::eZ::fA::fB::fC::fD::fE::fH::fI::fJ::fK::fL::fN::fO::fP::fQ::fR::fS::fT::fU::fV::fW::c127::fX::fY::fZ::gA::gB::gC::gD::gE::gF::gG::gH::gI::gJ::gK::gL::c143::gM::c145::gN::gO::gP::gQ::gR::gT::gU::gW::gX::gY::gZ::hJ::hZ::iA::iB::iC::iD::iE::iF::iG::iH::c167::c168::iI::iJ::c171::iK::c173::iL::c175::iM::iN::iO::iP::iQ::iR::iS::iT::iU::iV::iW::iX::iY::iZ::jA::jB::jC::jD::jE::jF::jG::jH::jI::jJ::jK::jL::jM::jN::[]).toArray,[]⟩ w:=by
 conv=>arg 2;whnf
 have Aa:ds.length=nb:=by rw[<-hL,List.length_take,List.length_drop,AO];omega
 have HQ:=A0 hQ;have HL:=A0 hL;have AU:=A0 AO
 have Ai:hb≠fb:=by
  rintro rfl;have:=AA.C;rw[hh] at this;injection this with this;injection this with _ t _;exact absurd t (by decide)
 have Aj:fr≠fb:=by
  rintro rfl;have:=AA.C;rw[hf] at this;injection this with this;injection this with _ t _;exact absurd t (by decide)
 have Aw:hb≠fr:=by
  rintro rfl;rw[hf] at hh;injection hh with this;injection this with _ t _;exact absurd t (by decide)
 have BD:=AA.tl;have Az:=AA.rl;have Ay:=AA.lfb;have As:=AA.G.size;have Av:=AA.gl;have BE:=AA.zl;have Ax:=A8 AA.C;have Ak:=AA.gS;have Ao:=AA.zS;simp at Ak Ao
 have BA:r≠tr:=by
  obtain⟨p,hr⟩:=h;rintro rfl;rw[ht.1] at hr;cases hr
 have AZ:NB tr r g fb false false true bs aE v0 (w.setCell ⟨fb,0,none⟩ (.int .i64 (fm (false&&false) (false&&false) (true&&true)))):=AA.setC (false&&false) (false&&false) (true&&true);have c0:w.cell? ⟨hb,0,none⟩=some (.int .u8 76):=by rw[Lib.cell_of_heap hh,<-AI];rfl
 have HM:=A0 (R6 w fb false false true false false true AA.C);have AY:=A0 (h.off (fb:=fb) (by omega) (.int .i64 (fm (false&&false) (false&&false) (true&&true))));have AM:Hid (TR tr r AJ (.iface 146 (.pointer (some ⟨fr,0,none⟩))) AH .nilIface (w.setCell ⟨fb,0,none⟩ (.int .i64 (fm (false&&false) (false&&false) (true&&true))))):=⟨NB.offC ht.1 (by omega) _,ht.2⟩;have AV:Hid (FRd fr r nb (w.setCell ⟨fb,0,none⟩ (.int .i64 (fm (false&&false) (false&&false) (true&&true))))):=NB.offC hf Aj _;have AX:=A0 (NB.offC hh Ai (.int .i64 (fm (false&&false) (false&&false) (true&&true))));have BC: (w.setCell ⟨fb,0,none⟩ (.int .i64 (fm (false&&false) (false&&false) (true&&true)))).heap.size=w.heap.size:=by simp[World.setCell]
 have AG:=A0 AZ;clear hQ hL AO AA h hf ht hh AZ;go_wp2_with fail
 refine HM.out.mono ?_;rintro e wx ⟨rfl,rfl⟩;clear HM c0;generalize w.setCell ⟨fb,0,none⟩ (.int .i64 (fm (false&&false) (false&&false) (true&&true)))=w1 at*;go_wp2_with fail
 refine(A1z w1 tr r g n c i nb fr AJ AH bs aE AY.out AV.out AM.out AR Al AP An AU.out AG.out.S (by omega) (by simp;omega) (by simp;omega) AG.out.E (by simp;omega)).mono ?_;rintro e w2 ⟨v,rfl,Ac,Ab,AS,AC⟩;rw[HL.out] at AS;obtain⟨gg,cap,rfl,AQ,AD⟩:=A2h AS Am Aa;have AT:=A0 AD;have Ae:=A0 (AG.out.step AC (by simp;omega));have AL:=A0 (AC.cells AX.out (by simp;omega) (.inr (by decide)));have Ah:=A0 (AM.out.fr AC (by simp;omega));have Au:=AC.size;have Ag:=A0 Ac;have AW:=A0 Ab;clear AG AX AM AY AV Ac Ab AC AU AS AD;have AE:Below w2.heap.size w2 (w2.alloc (.cells #[.nilIface] 231)):=(Below.refl _ _).alloc (Nat.le_refl _) _;have c0: (w2.alloc (.cells #[.nilIface] 231)).cell? ⟨hb,0,none⟩=some (.int .u8 76):=by rw[Lib.cell_of_heap ((AE.block hb (A8 AL.out)).trans AL.out),<-AI];rfl
 have Ap:w2.cell? ⟨hb,0,none⟩=some (.int .u8 76):=by rw[Lib.cell_of_heap AL.out,<-AI];rfl
 have Af:=A0 (L4 (w2.alloc (.cells #[.nilIface] 231)) (.pointer (some ⟨w2.heap.size,0,none⟩)) gg 0 nb cap ds (AT.out.carry (AE.block gg (At.lt' AT.out (by rw[Lib.byteCells_length];omega)))) Aa AQ);have Ad:=A0 ((AE.block fr (A8 AW.out)).trans AW.out);have AB:=A0 AE;clear AE AI;go_wp2_with fail
 refine Af.out.mono ?_;rintro e w3 ⟨rfl,rfl⟩;go_wp2_with fail
 refine HQ.out _ _ _ _ _ _ _ _ _ _ _ _ _ _ _ _ _ _ _ _ _ _ _ _ _ _ _ _ _ _ _ _ _ _ _ _ _ _ _ _ _ _ _ _ _ _ _ _ _ _ _ _ _ _ _ _ _ _ _ _ _ _ _ _ _ _ _ _ _ _ _ _ _ _ _ _ _ _ _ _ _ _ _ _ _ _ _ _ _ _ _ _ _ _ _ _ _ _ _ _ _ _ _ _ _ _ _ _ _ _ _ _ _ _ _ _ _ _ _ _ _ _ _ _ _ _ _ _ _ _ _ _ _ _ _ _ _ _ _ _ _ _ _ _ _ _ _ _ _ _ _ _ _ _ _ _ _ _ _ _ _ _ _ _ _ _ _ _ _ _ _ _ _ _ _ _ _ _ _ _ _ _ _ _ _ _ _ _ _ _ _ _ _ _ _ _ _ _ _ _ ⟨Ae.out.below AB.out,Ag.out.below AB.out,Ah.out.below AB.out,Ad.out,?_,?_⟩
 ·have:=AB.out.size;omega
 ·have:=AB.out.size;omega
theorem B8f (tr r g n c i fb hb fr nb:Nat) (AJ:Int) (AH:List Value) (bs ds:List UInt8) (aE:Addr) (H:Hd) (v0 w:World) (AA:NB tr r g fb false false true bs aE v0 w) (h:RD r g n c i w) (hf:FRd fr r nb w) (ht:TR tr r AJ (.iface 146 (.pointer (some ⟨fr,0,none⟩))) AH .nilIface w) (hh:w.heap[hb]?=some (.cells H.cells.toArray 130 (0,0))) (Aq:v0.heap.size<=hb) (Ar:v0.heap.size<=fr)
  (AI:H.typ=75) (AR:nb<=1048576) (Al:i+nb<=n) (AP:n<4611686018427387904) (An:n<=c) (AO:bs.length=n) (hL: (bs.drop i).take nb=ds) (Am:0<nb)
  (Q:Exit->Act->World->Prop)
  (hQ:∀ (d1 d2 d3 d8 d9 jO jP jQ jR jS jT jU jV jW jX jY jZ kA kB kC kD kE kF kG kH kI kJ kL kM kO kP kQ kR kS kT kU kV kW kX kY kZ lB lC lD lE lF lG lH lI lJ lL lM lO lP lQ lR lS lT lU lV lW lX lY lZ mA mB mC mD mE mF mG mH mI mJ mL mM mO mP mQ mR mS mT mU mV mW mX mY mZ nA nB nC nD nE nF nG aA aB aC aD aF aG aH aI aJ aK aL aM aN aO aP aQ aR aS aT aU aV aW aX aY aZ bB bC bD bE bF bG bH bI bJ bK bL bM bN bO bP bQ bR bS bT bU bV bW bX bY bZ cA cB cC cD cE cF cG cH cI cJ cL cM cO cP cQ cS cT cU cV cW cX cY cZ dA dB dC dD dE dF dG dH dI dJ dL dM dO dP dQ dR dS dT dU dV dW dX dY dZ eA eC eD eH eJ eK eO:Value) (w':World),RdL tr r g n c (i+nb) fb fr AJ bs aE AH v0 w w'->Q (.exit 1) ⟨(.pointer (some ⟨tr,0,none⟩)::d1::d2::d3::c4::c5::str (D4 ds)::.pointer (some ⟨fb,0,none⟩)::d8::d9::jO::jP::jQ::jR::jS::jT::jU::jV::jW::jX::jY::jZ::kA::kB::kC::kD::kE::kF::kG::kH::kI::kJ::kL::kM::kO::kP::kQ::kR::kS::kT::kU::kV::kW::kX::kY::kZ::lB::lC::lD::lE::lF::lG::lH::lI::lJ::lL::lM::lO::lP::lQ::lR::lS::lT::lU::lV::lW::lX::lY::lZ::mA::mB::mC::mD::mE::mF::mG::mH::mI::mJ::mL::mM::mO::mP::mQ::mR::mS::mT::mU::mV::mW::mX::mY::mZ::nA::nB::nC::nD::nE::nF::nG::aA::aB::aC::aD::aF::aG::aH::aI::aJ::aK::aL::aM::aN::aO::aP::aQ::aR::aS::aT::aU::aV::aW::aX::aY::aZ::bB::bC::bD::bE::bF::bG::bH::bI::bJ::bK::bL::bM::bN::bO::bP::bQ::bR::bS::bT::bU::bV::bW::bX::bY::bZ::cA::cB::cC::cD::cE::cF::cG::cH::cI::cJ::cL::cM::cO::cP::cQ::cS::cT::cU::cV::cW::cX::cY::cZ::dA::dB::dC::dD::dE::dF::dG::dH::dI::dJ::dL::dM::dO::dP::dQ::dR::dS::dT::dU::dV::dW::dX::dY::dZ::eA::eC::eD::eH::eJ::eK::eO::[]).toArray,[]⟩ w'):
  Code.wp Tryz.prog A2c Q ⟨(.pointer (some ⟨tr,0,none⟩)::c1::c2::c3::c4::c5::c6::.pointer (some ⟨fb,0,none⟩)::c8::c9::nH::.pointer (some ⟨hb,0,none⟩)::.pointer (some ⟨tr,3,none⟩)::nI::nJ::nL::nM::nO::nP::nQ::c20::c21::nS::nT::nU::nV::nW::nX::nY::nZ::oA::oB::oC::oD::oE::oF::oG::c37::oH::oI::oJ::oK::oL::oM::oN::oO::c46::oQ::oR::oS::oT::c51::oU::c53::oV::oW::oX::oY::oZ::pA::pB::pC::pD::pE::pF::pG::pH::pI::pJ::pL::pM::pO::pP::pQ::pR::c75::pS::pT::pU::pW::c80::pX::pY::pZ::qA::c85::qB::qC::qD::qE::qF::qG::qH::qI::qJ::qL::qM::qO::qP::qQ::eR::eS::eV::eW::eX::eY::eZ::fA::fB::fC::fD::fE::fH::fI::fJ::fK::fL::fN::fO::fP::fQ::fR::fS::fT::fU::fV::fW::c127::fX::fY::fZ::gA::gB::gC::gD::gE::gF::gG::gH::gI::gJ::gK::gL::c143::gM::c145::gN::gO::gP::gQ::gR::gT::gU::gW::gX::gY::gZ::hJ::hZ::iA::iB::iC::iD::iE::iF::iG::iH::c167::c168::iI::iJ::c171::iK::c173::iL::c175::iM::iN::iO::iP::iQ::iR::iS::iT::iU::iV::iW::iX::iY::iZ::jA::jB::jC::jD::jE::jF::jG::jH::jI::jJ::jK::jL::jM::jN::[]).toArray,[]⟩ w:=by
 conv=>arg 2;whnf
 have Aa:ds.length=nb:=by rw[<-hL,List.length_take,List.length_drop,AO];omega
 have HQ:=A0 hQ;have HL:=A0 hL;have AU:=A0 AO
 have Ai:hb≠fb:=by
  rintro rfl;have:=AA.C;rw[hh] at this;injection this with this;injection this with _ t _;exact absurd t (by decide)
 have Aj:fr≠fb:=by
  rintro rfl;have:=AA.C;rw[hf] at this;injection this with this;injection this with _ t _;exact absurd t (by decide)
 have Aw:hb≠fr:=by
  rintro rfl;rw[hf] at hh;injection hh with this;injection this with _ t _;exact absurd t (by decide)
 have BD:=AA.tl;have Az:=AA.rl;have Ay:=AA.lfb;have As:=AA.G.size;have Av:=AA.gl;have BE:=AA.zl;have Ax:=A8 AA.C;have Ak:=AA.gS;have Ao:=AA.zS;simp at Ak Ao
 have BA:r≠tr:=by
  obtain⟨p,hr⟩:=h;rintro rfl;rw[ht.1] at hr;cases hr
 have AZ:NB tr r g fb false false true bs aE v0 (w.setCell ⟨fb,0,none⟩ (.int .i64 (fm (false&&false) (false&&false) (true&&true)))):=AA.setC (false&&false) (false&&false) (true&&true);have c0:w.cell? ⟨hb,0,none⟩=some (.int .u8 75):=by rw[Lib.cell_of_heap hh,<-AI];rfl
 have HM:=A0 (R6 w fb false false true false false true AA.C);have AY:=A0 (h.off (fb:=fb) (by omega) (.int .i64 (fm (false&&false) (false&&false) (true&&true))));have AM:Hid (TR tr r AJ (.iface 146 (.pointer (some ⟨fr,0,none⟩))) AH .nilIface (w.setCell ⟨fb,0,none⟩ (.int .i64 (fm (false&&false) (false&&false) (true&&true))))):=⟨NB.offC ht.1 (by omega) _,ht.2⟩;have AV:Hid (FRd fr r nb (w.setCell ⟨fb,0,none⟩ (.int .i64 (fm (false&&false) (false&&false) (true&&true))))):=NB.offC hf Aj _;have AX:=A0 (NB.offC hh Ai (.int .i64 (fm (false&&false) (false&&false) (true&&true))));have BC: (w.setCell ⟨fb,0,none⟩ (.int .i64 (fm (false&&false) (false&&false) (true&&true)))).heap.size=w.heap.size:=by simp[World.setCell]
 have AG:=A0 AZ;clear hQ hL AO AA h hf ht hh AZ;go_wp2_with fail
 refine HM.out.mono ?_;rintro e wx ⟨rfl,rfl⟩;clear HM c0;generalize w.setCell ⟨fb,0,none⟩ (.int .i64 (fm (false&&false) (false&&false) (true&&true)))=w1 at*;go_wp2_with fail
 refine(A1z w1 tr r g n c i nb fr AJ AH bs aE AY.out AV.out AM.out AR Al AP An AU.out AG.out.S (by omega) (by simp;omega) (by simp;omega) AG.out.E (by simp;omega)).mono ?_;rintro e w2 ⟨v,rfl,Ac,Ab,AS,AC⟩;rw[HL.out] at AS;obtain⟨gg,cap,rfl,AQ,AD⟩:=A2h AS Am Aa;have AT:=A0 AD;have Ae:=A0 (AG.out.step AC (by simp;omega));have AL:=A0 (AC.cells AX.out (by simp;omega) (.inr (by decide)));have Ah:=A0 (AM.out.fr AC (by simp;omega));have Au:=AC.size;have Ag:=A0 Ac;have AW:=A0 Ab;clear AG AX AM AY AV Ac Ab AC AU AS AD;have AE:Below w2.heap.size w2 (w2.alloc (.cells #[.nilIface] 231)):=(Below.refl _ _).alloc (Nat.le_refl _) _;have c0: (w2.alloc (.cells #[.nilIface] 231)).cell? ⟨hb,0,none⟩=some (.int .u8 75):=by rw[Lib.cell_of_heap ((AE.block hb (A8 AL.out)).trans AL.out),<-AI];rfl
 have Ap:w2.cell? ⟨hb,0,none⟩=some (.int .u8 75):=by rw[Lib.cell_of_heap AL.out,<-AI];rfl
 have Af:=A0 (L4 (w2.alloc (.cells #[.nilIface] 231)) (.pointer (some ⟨w2.heap.size,0,none⟩)) gg 0 nb cap ds (AT.out.carry (AE.block gg (At.lt' AT.out (by rw[Lib.byteCells_length];omega)))) Aa AQ);have Ad:=A0 ((AE.block fr (A8 AW.out)).trans AW.out);have AB:=A0 AE;clear AE AI;go_wp2_with fail
 refine Af.out.mono ?_;rintro e w3 ⟨rfl,rfl⟩;go_wp2_with fail
 refine HQ.out _ _ _ _ _ _ _ _ _ _ _ _ _ _ _ _ _ _ _ _ _ _ _ _ _ _ _ _ _ _ _ _ _ _ _ _ _ _ _ _ _ _ _ _ _ _ _ _ _ _ _ _ _ _ _ _ _ _ _ _ _ _ _ _ _ _ _ _ _ _ _ _ _ _ _ _ _ _ _ _ _ _ _ _ _ _ _ _ _ _ _ _ _ _ _ _ _ _ _ _ _ _ _ _ _ _ _ _ _ _ _ _ _ _ _ _ _ _ _ _ _ _ _ _ _ _ _ _ _ _ _ _ _ _ _ _ _ _ _ _ _ _ _ _ _ _ _ _ _ _ _ _ _ _ _ _ _ _ _ _ _ _ _ _ _ _ _ _ _ _ _ _ _ _ _ _ _ _ _ _ _ _ _ _ _ _ _ _ _ _ _ _ _ _ _ _ _ _ _ _ ⟨Ae.out.below AB.out,Ag.out.below AB.out,Ah.out.below AB.out,Ad.out,?_,?_⟩
 ·have:=AB.out.size;omega
 ·have:=AB.out.size;omega
end Go.Proofs.YtkanmkcojlefbaaGreatDoor
