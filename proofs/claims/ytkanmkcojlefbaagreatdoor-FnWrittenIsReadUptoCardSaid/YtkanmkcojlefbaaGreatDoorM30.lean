/-
  Part of the proof; holds the texts HOf8, HOf4.
-/
import Derived.Test.YtkanmkcojlefbaaGreatDoorM29
set_option maxHeartbeats 8000000
set_option maxRecDepth 100000
set_option linter.unusedSimpArgs false
set_option linter.unusedVariables false
namespace Go.Proofs.YtkanmkcojlefbaaGreatDoor
open Go.RowKit
variable {c1 c4 c5 c6 c7 c8 c9 bU bV bW bX bY bZ cA cB bT cC c20 c21 cD cE cF cG cH cI cJ cL cM cO cP cQ cS cT cU c37 cV cW cX cY cZ dA dB dC c46 dD dE dF dG c51 dH c53 dI dJ dL dM dO dP dQ dR dS dT dU dV dW dX dY dZ eA eC eD eH eJ c75 eK eO eR eS c80 eV eW eX eY c85 eZ fA fB fC fD fE fH fI fJ fK fL fN fO fP aA aB aD aF aG aH aI aJ aK aL aM aN aO aP aQ aR aS aT aU aV aW aX aY aZ bA bB bC c127 bD bE bF bG bH bI bJ bK bL bM bN bO bP bQ bR c143 bS:Value}
def HOS (H:Hd) (m:KV) (hb g2 g3 rb nR r0:Nat) (z:Array Value) (w0 w:World):Prop:=
 ∃AA AB L rv,K9 w rb r0 nR m AA AB/\w.heap[hb]?=some (.cells H.cells.toArray 130 (0,0))/\w.heap[g3]?=some (.cells ({A0e H with recs:=rv}:IH).cells.toArray 26 (0,0))/\w.heap[g2]?=some (.cells z 26 (0,0))/\Below w0.heap.size w0 w/\w.ownsRow w0.heap.size 59 2 rv L.length (E8 L)/\(L.map (·.1)).Nodup/\(∀p:List UInt8×List UInt8,p∈L↔m p.1=some p.2/\AA p.1=false)/\L.length+AB<=nR
theorem A7v {w w':World} {B n:Nat} {v:Value} {xs:List Value} (h:w.ownsRow B 59 2 v n xs) (hk:∀ (q:Nat) (c:Array Value),w.heap[q]?=some (Obj.cells c 59 (0,0))->w'.heap[q]?=some (Obj.cells c 59 (0,0))):w'.ownsRow B 59 2 v n xs:=by
 refine⟨h.1,?_⟩;rcases h.2 with h|⟨g,cap,cur,h1,h2,h3,h4⟩
 ·exact .inl h
 ·exact .inr ⟨g,cap,cur,h1,h2,hk g cur h3,h4⟩
theorem B2y {w w0:World} {rv:Value} {L:List (List UInt8×List UInt8)} (h:w.ownsRow w0.heap.size 59 2 rv L.length (E8 L)):N5 w rv L:=by
 rcases h.2 with ⟨rfl,h0⟩|⟨g,cap,cur,rfl,h1,h2,h3,h4,h5,h6⟩
 ·refine⟨none,0,by rw[h0],λj hj=>by omega⟩
 ·refine⟨some ⟨g,0,none⟩,cap,rfl,λj hj=>⟨g,0,rfl,A8 h2,?_,?_⟩⟩
  ·obtain⟨e,-⟩:=A1L L j hj
   rw[zA h2,Nat.zero_add,<-Array.getElem?_toList];rw[<-h6,List.getElem?_take,if_pos (by omega)] at e;exact e
  ·obtain⟨-,e⟩:=A1L L j hj
   rw[zA h2,Nat.zero_add,<-Array.getElem?_toList];rw[<-h6,List.getElem?_take,if_pos (by omega)] at e;exact e
theorem B2w {w w0:World} {rv:Value} {L:List (List UInt8×List UInt8)} (h:w.ownsRow w0.heap.size 59 2 rv L.length (E8 L)):∃p c,rv= .slice p L.length c/\∀ (j:Nat) (hj:j<L.length),∃g,p=some ⟨g,0,none⟩/\w.cell? ⟨g,j*2,none⟩=some (str L[j].1):=by
 rcases h.2 with ⟨rfl,h0⟩|⟨g,cap,cur,rfl,h1,h2,h3,h4,h5,h6⟩
 ·exact⟨none,0,by rw[h0],λj hj=>by omega⟩
 ·refine⟨some ⟨g,0,none⟩,cap,rfl,λj hj=>⟨g,rfl,?_⟩⟩
  obtain⟨e,-⟩:=A1L L j hj;rw[zA h2,<-Array.getElem?_toList];rw[<-h6,List.getElem?_take,if_pos (by omega)] at e;exact e
theorem Kp.thn {w0 a b c:World} {g3:Nat} (h:Kp w0 g3 a b) (k:Kp w0 g3 b c):Kp w0 g3 a c:=⟨k.B,λq o hq AA ho=>k.K q o (h.K q o hq AA ho) AA ho,zP h.size k.size⟩
theorem Kp.range {w0 a b:World} {g3 rb r0 nR AC:Nat} {m:KV} {AA:List UInt8->Bool} (h:Kp w0 g3 a b) (hr:K9 a rb r0 nR m AA AC) (h1:rb≠g3) (h2:r0≠g3):K9 b rb r0 nR m AA AC:=by
 have hh:=hr;obtain⟨D,left,⟨es,AB,AD,AE,c0,x1,x2,x3,x4,x5,x6⟩,_,_⟩:=hh;exact hr.block ((h.K rb _ x1 h1 (λc fz e=>by cases e)).trans x1.symm) ((h.K r0 _ x5 h2 (λc fz e=>by cases e)).trans x5.symm)
theorem B2Y (L:List (List UInt8×List UInt8)) (i:Nat) (p:List UInt8×List UInt8): (L.take i++p::L.drop i).Perm (p::L):=by
 have:=List.perm_middle (a:=p) (l₁:=L.take i) (l₂:=L.drop i);rwa [List.take_append_drop] at this
theorem B8E (w0:World) (hb g2 g3:Nat) (H:Hd) (R:KV) (Bi:hb<w0.heap.size) (rb nR:Nat) (BD:H.recs= .map (some rb)) (BX:rb<w0.heap.size) (hm:M9 w0 rb nR R) (Bj:nR<=4294967296) (BV:H.InO) (w:World) (hH:w.heap[hb]?=some (.cells H.cells.toArray 130 (0,0))) (hB:Below w0.heap.size w0 w) (h2:w0.heap.size<=g2) (h3:w0.heap.size<=g3) (An:g2≠g3) (Ab:w.heap[g3]?=some (.cells (A0e H).cells.toArray 26 (0,0))) (z:Array Value) (hz:z.size=21) (Aa:w.heap[g2]?=some (.cells z 26 (0,0)))
  (Rr:Ending->World->Prop) (hR:∀e w',A3v H R w0 e w'->Rr e w'):
  Code.wp Tryz.prog A9X (bodyPost Tryz.prog Tryz.f38 Rr) ⟨(.pointer (some ⟨hb,0,none⟩)::c1::.pointer (some ⟨g2,0,none⟩)::.pointer (some ⟨g3,0,none⟩)::c4::c5::c6::c7::c8::c9::bU::bV::bW::bX::bY::bZ::cA::cB::bT::cC::c20::c21::cD::cE::cF::cG::cH::cI::cJ::cL::cM::cO::cP::cQ::cS::cT::cU::c37::cV::cW::cX::cY::cZ::dA::dB::dC::c46::dD::dE::dF::dG::c51::dH::c53::dI::dJ::dL::dM::dO::dP::dQ::dR::dS::dT::dU::dV::dW::dX::dY::dZ::eA::eC::eD::eH::eJ::c75::eK::eO::eR::eS::c80::eV::eW::eX::eY::c85::eZ::fA::fB::fC::fD::fE::fH::fI::fJ::fK::fL::fN::fO::fP::aA::aB::aD::aF::aG::aH::aI::aJ::aK::aL::aM::aN::aO::aP::aQ::aR::aS::aT::aU::aV::aW::aX::aY::aZ::bA::bB::bC::c127::bD::bE::bF::bG::bH::bI::bJ::bK::bL::bM::bN::bO::bP::bQ::bR::c143::bS::[]).toArray,[]⟩ w:=by
 conv=>arg 2;whnf
 have Az:M9 w rb nR R:=hm.block (hB.block rb BX);have bT:w.cell? ⟨hb,18,none⟩=some (.map (some rb)):=by rw[zA hH,<-BD];rfl
 have Aw:=A8 Aa;have Ax:=A8 Ab;have Ay:=A8 hH;have Bb:=hB.size;have HR:=A0 hR;have HH:=A0 hH;have HB:=A0 hB;have Ah:=A0 Ab;have Ag:=A0 Aa;have HM:=A0 Az;clear hR hH hB Ab Aa hm BD Az BV;go_upto_region 8 with fail
 rename_i K1 Ao K2 Bg;have HK:=A0 Ao;clear Ao;go_wp2_with (at_range;refine X3 _ rfl _ rfl rb nR R rfl HM.out ?_;intro w1 AY AT Ar AC BZ)
 go_frame
 have AW:Hid (HOS H R hb g2 g3 rb nR w.heap.size z w0 w1):=by
  refine A0 ⟨_,AY,[],.slice none 0 0,AT,(AC.block hb Ay (by simp)).trans HH.out,(AC.block g3 Ax (by simp)).trans Ah.out,(AC.block g2 Aw (by simp)).trans Ag.out,?_,World.ownsRow_nil _ _ _ _,List.nodup_nil,λp=> ?_,by simpa using Ar⟩
  ·exact⟨AC.os.trans HB.out.os,AC.tape.trans HB.out.tape,AC.output.trans HB.out.output,zP HB.out.size AC.size,λq hq=>(AC.block q (by omega) (by simp)).trans (HB.out.block q hq)⟩
  ·constructor
   ·intro h;cases h
   ·rintro⟨h1,h2⟩;rw[h1] at h2;cases h2
 obtain⟨r0,AR⟩:∃r0,r0=w.heap.size:=⟨_,rfl⟩;have Bk:r0≠g2:=by omega
 have BC:r0≠g3:=by omega
 have Bl:w0.heap.size<=r0:=by omega
 have BY:r0≠hb:=by omega
 clear AT Ar AC BZ HM HH HB Ah Ag bT Aw Ax Ay;rw[<-AR] at AW⊢;clear AR Bb;go_loopw [] (λwr=>Hid (HOS H R hb g2 g3 rb nR r0 z w0 wr)) (λwr=>wr.rangeLeft rb r0)
 case atStart=>exact AW
 case round=>
  obtain⟨Af,BR,L,rv,AD,q1,q2,q3,q4,q5,q6,q7,q8⟩:=hrel.out;have Aj:=A0 AD;have Q1:=A0 q1;have Q2:=A0 q2;have Q3:=A0 q3;have Q4:=A0 q4;have Q5:=A0 q5;have Q6:=A0 q6;have Q7:=A0 q7;clear hrel AW q1 q2 q3 q4 q5 q6 q7;go_wp2_with (at_next;refine Z1 _ rfl _ rfl rb r0 nR R Af BR rfl AD ?_ ?_)
  ·intro BU BE
   have BP:=A0 BE;clear AD BE BU;go_wp2_with fail
   refine HK.out _ _ ?_
   have Ad: ({A0e H with recs:=rv}:IH).recs.oneCell'=true:=by
    rcases Q5.out.2 with ⟨rfl,-⟩|⟨g,cap,cur,rfl,-⟩<;>rfl
   refine B7C g2 g3 {A0e H with recs:=rv} Ad _ w0 Q4.out h2 An Q2.out z hz Q3.out Rr (λw' BS hk hs=>HR.out _ _ ?_)
   refine⟨rv,L,rfl,B2y (w0:=w0) (A7v Q5.out (λq c hq=>(hk q (by rintro rfl;rw[Q3.out] at hq;injection hq with hq;injection hq with _ t _;exact absurd t (by decide))).trans hq)),(by
    intro p n c e;rcases Q5.out.2 with ⟨e2,-⟩|⟨gq,cap,cur,e2,hq,AQ,-⟩
    ·rw[e2] at e;cases e
    ·rw[e2] at e;cases e;exact⟨hq,cur,_,(hk gq (by rintro rfl;rw[Q3.out] at AQ;injection AQ with AQ;injection AQ with _ t _;exact absurd t (by decide))).trans AQ⟩),⟨Q6.out,λp hp=>((Q7.out p).1 hp).1,λk v BW=>(Q7.out (k,v)).2 ⟨BW,BP.out k⟩⟩,BS⟩
  ·intro k v w1 AZ Av BH BF Aq AU AP AB Ba Bh
   have p1:=AB.cells Q1.out (by simp;omega) (.inr (by decide));have p2:=AB.cells Q2.out (by simp;omega) (.inr (by decide));have p3:=AB.cells Q3.out (by simp;omega) (.inr (by decide))
   have Au:∀c,wr.heap[r0]?≠some (.cells c 59 (0,0)):=by
    obtain⟨D,left,⟨es,Al,BJ,Bc,c0,x1,x2,x3,x4,x5,x6⟩,_,_⟩:=Aj.out;intro c e;rw[x5] at e;cases e
   have p5:=A7v Q5.out (w':=w1) (λq c hq=>AB.cells hq (by simp;rintro rfl;exact Au c hq) (.inr (by decide)))
   have p4:Below w0.heap.size w0 w1:=⟨AB.os.trans Q4.out.os,AB.tape.trans Q4.out.tape,AB.output.trans Q4.out.output,zP Q4.out.size AB.size,λq hq=>by
    have BA:q<wr.heap.size:=zL hq Q4.out.size;obtain⟨o,ho⟩:∃o,wr.heap[q]?=some o:=⟨_,Array.getElem?_eq_getElem BA⟩;exact(AB.same ho (by simp;omega) (.inl BA)).trans (ho.symm.trans (Q4.out.block q hq))⟩
   have P1:=A0 p1;have P2:=A0 p2;have P3:=A0 p3;have P4:=A0 p4;have P5:=A0 p5;have AI:=A0 AU;have Ai:=A0 AP;have Ak:=A0 Aq;have BQ:=A0 BF;have Bd:=A0 Av;have Be:=A0 BH;clear AD AU p1 p2 p3 p4 p5 AB Ba AP Aq BF Au Q1 Q2 Q3 Q4 Q5 Av BH;go_upto_region 10 with fail
   rename_i K3 Ap;have BO:=A0 Ap;clear Ap;obtain⟨p,c,hv,As⟩:=B2w P5.out;have Am:w1.cell? ⟨g3,19,none⟩=some (.slice p L.length c):=by rw[zA P2.out,<-hv];rfl
   have BL:=A0 Am;have BM:=A0 As;clear hv Am As;go_wp2_with fail
   refine BO.out _ _ ?_;refine B4C w1 hb g2 g3 r0 k v L p c BL.out BM.out (by omega) _ ?_;intros
   rename_i i hi;refine B4D w1 w0 hb g2 g3 r0 k v i L.length {A0e H with recs:=rv} (E8 L) P4.out h3 P2.out P5.out (by omega) _ ?_;intros
   rename_i BI w2 Ac AL AE;refine B5d w2 w0 hb g2 g3 r0 k v i L.length {A0e H with recs:=rv} L rfl hi (by omega) BI Ac.B AL AE _ ?_;intros
   rename_i w3 AO AM AG;have AH:=Ac.thn AO;have BT:hb≠g3:=by rintro rfl;omega
   have AS:rb≠g3:=by rintro rfl;omega
   have AA:=B2Y L i (k,v)
   have hrel:HOS H R hb g2 g3 rb nR r0 z w0 w3:=by
    refine⟨_,AZ,L.take i++(k,v)::L.drop i,BI,AH.range AI.out AS BC,AH.K hb _ P1.out BT (λc fz e=>by cases e),AM,AH.K g2 _ P3.out An (λc fz e=>by cases e),AH.B,?_,?_,λq=> ?_,?_⟩
    ·rw[AA.length_eq];exact AG
    ·refine(AA.map (·.1)).nodup_iff.2 (List.nodup_cons.2 ⟨λhm=> ?_,Q6.out⟩)
     obtain⟨q,hq,e⟩:=List.mem_map.1 hm;have:=((Q7.out q).1 hq).2;rw[e,BQ.out] at this;cases this
    ·rw[AA.mem_iff,List.mem_cons]
     constructor
     ·rintro(rfl|hq)
      ·exact⟨Ak.out,by simp⟩
      ·obtain⟨e1,e2⟩:=(Q7.out q).1 hq
       exact⟨e1,by rw[e2];rfl⟩
     ·rintro⟨e1,e2⟩
      by_cases Ae:q.1=k
      ·left
       rw[Ae,Ak.out] at e1;exact Prod.ext Ae (Option.some.inj e1).symm
      ·right
       refine(Q7.out q).2 ⟨e1,?_⟩;simpa[Ae] using e2
    ·rw[AA.length_eq,List.length_cons];have:=Ai.out;omega
   have AX:=A0 hrel;have AJ:=(AH.range AI.out AS BC).left_eq;have AV:=A0 AJ;clear hrel AJ AH Ac AO AL AM AE AG AA;go_roundw
   case rel=>
    iterate 50 (first|apply Exists.intro|skip)
    first|exact⟨AX,rfl⟩
   case measure=>rw[AV.out,Aj.out.left_eq];exact Ai.out
theorem ho8 (w0:World) (hb g2 g3:Nat) (H:Hd) (R:KV) (AG:hb<w0.heap.size) (AJ:J4 w0 H.recs R w0.heap.size) (AE:H.InO) (w:World) (hH:w.heap[hb]?=some (.cells H.cells.toArray 130 (0,0))) (hB:Below w0.heap.size w0 w) (h2:w0.heap.size<=g2) (h3:w0.heap.size<=g3) (AB:g2≠g3) (AD:w.heap[g3]?=some (.cells (A0e H).cells.toArray 26 (0,0))) (z:Array Value) (hz:z.size=21) (AC:w.heap[g2]?=some (.cells z 26 (0,0)))
  (Rr:Ending->World->Prop) (hR:∀e w',A3v H R w0 e w'->Rr e w'):
  Code.wp Tryz.prog A9X (bodyPost Tryz.prog Tryz.f38 Rr) ⟨(.pointer (some ⟨hb,0,none⟩)::c1::.pointer (some ⟨g2,0,none⟩)::.pointer (some ⟨g3,0,none⟩)::c4::c5::c6::c7::c8::c9::bU::bV::bW::bX::bY::bZ::cA::cB::bT::cC::c20::c21::cD::cE::cF::cG::cH::cI::cJ::cL::cM::cO::cP::cQ::cS::cT::cU::c37::cV::cW::cX::cY::cZ::dA::dB::dC::c46::dD::dE::dF::dG::c51::dH::c53::dI::dJ::dL::dM::dO::dP::dQ::dR::dS::dT::dU::dV::dW::dX::dY::dZ::eA::eC::eD::eH::eJ::c75::eK::eO::eR::eS::c80::eV::eW::eX::eY::c85::eZ::fA::fB::fC::fD::fE::fH::fI::fJ::fK::fL::fN::fO::fP::aA::aB::aD::aF::aG::aH::aI::aJ::aK::aL::aM::aN::aO::aP::aQ::aR::aS::aT::aU::aV::aW::aX::aY::aZ::bA::bB::bC::c127::bD::bE::bF::bG::bH::bI::bJ::bK::bL::bM::bN::bO::bP::bQ::bR::c143::bS::[]).toArray,[]⟩ w:=by
 rcases AJ with ⟨h1,AA⟩|⟨rb,nR,h1,AA,AH,AI⟩
 ·exact B8F w0 hb g2 g3 H R AG h1 AA AE w hH hB h2 h3 AB AD z hz AC Rr hR
 ·exact B8E w0 hb g2 g3 H R AG rb nR h1 AA AH AI AE w hH hB h2 h3 AB AD z hz AC Rr hR
end Go.Proofs.YtkanmkcojlefbaaGreatDoor
namespace Go.Proofs.YtkanmkcojlefbaaGreatDoor
open Go.RowKit
noncomputable def B5w:Code:=I2 6 (Tryz.f38.body.getD .skip)
theorem ho6 (w0:World) (hb g2 g3:Nat) (H:Hd) (R:KV) (AS:hb<w0.heap.size) (AU:J4 w0 H.recs R w0.heap.size) (AD:H.InO) (w:World) (hH:w.heap[hb]?=some (.cells H.cells.toArray 130 (0,0))) (hB:Below w0.heap.size w0 w) (h2:w0.heap.size<=g2) (h3:w0.heap.size<=g3) (AE:g2≠g3) (AG:w.heap[g3]?=some (.cells (ih1 H).cells.toArray 26 (0,0))) (z:Array Value) (hz:z.size=21) (AI:w.heap[g2]?=some (.cells z 26 (0,0)))
  (Rr:Ending->World->Prop) (hR:∀e w',A3v H R w0 e w'->Rr e w') {c1 c4 c5 c6 c7 c8 c9 bU bV bW bX bY bZ cA cB bT cC c20 c21 cD cE cF cG cH cI cJ cL cM cO cP cQ cS cT cU c37 cV cW cX cY cZ dA dB dC c46 dD dE dF dG c51 dH c53 dI dJ dL dM dO dP dQ dR dS dT dU dV dW dX dY dZ eA eC eD eH eJ c75 eK eO eR eS c80 eV eW eX eY c85 eZ fA fB fC fD fE fH fI fJ fK fL fN fO fP aA aB aD aF aG aH aI aJ aK aL aM aN aO aP aQ aR aS aT aU aV aW aX aY aZ bA bB bC c127 bD bE bF bG bH bI bJ bK bL bM bN bO bP bQ bR c143 bS:Value}:
  Code.wp Tryz.prog B5w (bodyPost Tryz.prog Tryz.f38 Rr) ⟨(.pointer (some ⟨hb,0,none⟩)::c1::.pointer (some ⟨g2,0,none⟩)::.pointer (some ⟨g3,0,none⟩)::c4::c5::c6::c7::c8::c9::bU::bV::bW::bX::bY::bZ::cA::cB::bT::cC::c20::c21::cD::cE::cF::cG::cH::cI::cJ::cL::cM::cO::cP::cQ::cS::cT::cU::c37::cV::cW::cX::cY::cZ::dA::dB::dC::c46::dD::dE::dF::dG::c51::dH::c53::dI::dJ::dL::dM::dO::dP::dQ::dR::dS::dT::dU::dV::dW::dX::dY::dZ::eA::eC::eD::eH::eJ::c75::eK::eO::eR::eS::c80::eV::eW::eX::eY::c85::eZ::fA::fB::fC::fD::fE::fH::fI::fJ::fK::fL::fN::fO::fP::aA::aB::aD::aF::aG::aH::aI::aJ::aK::aL::aM::aN::aO::aP::aQ::aR::aS::aT::aU::aV::aW::aX::aY::aZ::bA::bB::bC::c127::bD::bE::bF::bG::bH::bI::bJ::bK::bL::bM::bN::bO::bP::bQ::bR::c143::bS::[]).toArray,[]⟩ w:=by
 conv=>arg 2;whnf
 have HR:=A0 hR;have AO:=A0 AU;have AM:=A0 AD;have HH:=A0 hH;have HB:=A0 hB;have AL:=A0 AG;have AJ:=A0 AI;have d0:w.cell? ⟨hb,13,none⟩=some (.int .u64 H.cw):=by rw[zA hH];rfl
 have d1:w.cell? ⟨hb,13+1,none⟩=some (.int .i64 H.cx):=by rw[zA hH];rfl
 have e0:w.cell? ⟨g3,14,none⟩=some (.bool (!E5 H.cw H.cx)):=by rw[zA AG];rfl
 have HT:=A0 (λwx=>A9i wx H.cw H.cx AD.cw.1 AD.cw.2 AD.cx);have l3:=A8 AG;have l2:=A8 AI;have lb:=A8 hH;clear hR AU AD hH hB AG AI;go_upto_region 6 with fail
 rename_i K1 AR K2 AX;have HK:=A0 AR;clear AR;cases ha:E5 H.cw H.cx<;>rw[ha] at e0
 ·have HA:=A0 ha
  clear ha;rw[Bool.not_false] at e0;go_wp2_with fail
  refine(HT.out _).mono ?_;rintro e w1 ⟨rfl,AC⟩;have AA:=(AC.block g3 l3).trans AL.out;have f0:w1.cell? ⟨g3,15,none⟩=some (.int .i64 0):=by rw[zA AA];rfl
  have f1:w1.cell? ⟨g3,16,none⟩=some (.int .i64 0):=by rw[zA AA];rfl
  have z0:w1.frozen? ⟨g3,15,none⟩=false:=zE AA 15;have z1:w1.frozen? ⟨g3,16,none⟩=false:=zE AA 16;have s1:=B6 (i:=15) (.int .i64 (H.cx-62135596800)) AA;have s2:=B6 (i:=16) (.int .i64 H.cw) s1
  have e3: ((((ih1 H).cells.toArray.setIfInBounds 15 (.int .i64 (H.cx-62135596800))).setIfInBounds 16 (.int .i64 H.cw)):Array Value)=(A0e H).cells.toArray:=by
   have:=HA.out;simp[A0e,ih1,ih1,ih0,IH.cells,this]
  rw[e3] at s2;have AT:hb≠g3:=by omega
  have AQ:=(C0 (a:=⟨g3,16,none⟩) (w:=w1.setCell ⟨g3,15,none⟩ (.int .i64 (H.cx-62135596800))) (.int .i64 H.cw) AT).trans ((C0 (a:=⟨g3,15,none⟩) (.int .i64 (H.cx-62135596800)) AT).trans ((AC.block hb lb).trans HH.out));have AB:=(C0 (a:=⟨g3,16,none⟩) (w:=w1.setCell ⟨g3,15,none⟩ (.int .i64 (H.cx-62135596800))) (.int .i64 H.cw) AE).trans ((C0 (a:=⟨g3,15,none⟩) (.int .i64 (H.cx-62135596800)) AE).trans ((AC.block g2 l2).trans AJ.out));have AP:=((HB.out.trans (AC.mono HB.out.size)).setCell (p:=⟨g3,15,none⟩) h3 (.int .i64 (H.cx-62135596800))).setCell (p:=⟨g3,16,none⟩) h3 (.int .i64 H.cw);have HS:=A0 s2;have AW:=A0 AQ;have AH:=A0 AB;have AV:=A0 AP;clear s1 s2 AQ AB AP AC AA e3 d0 d1 e0;go_wp2_with fail
  refine HK.out _ _ ?_;exact ho8 w0 hb g2 g3 H R AS AO.out AM.out _ AW.out AV.out h2 h3 AE HS.out z hz AH.out Rr HR.out
 ·have HA:=A0 ha
  clear ha;rw[Bool.not_true] at e0;go_wp2_with fail
  refine HK.out _ _ ?_
  have e3:A0e H=ih1 H:=by
   have:=HA.out;simp[A0e,ih1,ih1,ih0,this]
  have HS:=AL.out;rw[<-e3] at HS;exact ho8 w0 hb g2 g3 H R AS AO.out AM.out _ HH.out HB.out h2 h3 AE HS z hz AJ.out Rr HR.out
theorem ho4 (w0:World) (hb g2 g3:Nat) (H:Hd) (R:KV) (AS:hb<w0.heap.size) (AU:J4 w0 H.recs R w0.heap.size) (AD:H.InO) (w:World) (hH:w.heap[hb]?=some (.cells H.cells.toArray 130 (0,0))) (hB:Below w0.heap.size w0 w) (h2:w0.heap.size<=g2) (h3:w0.heap.size<=g3) (AE:g2≠g3) (AG:w.heap[g3]?=some (.cells (ih0 H).cells.toArray 26 (0,0))) (z:Array Value) (hz:z.size=21) (AI:w.heap[g2]?=some (.cells z 26 (0,0)))
  (Rr:Ending->World->Prop) (hR:∀e w',A3v H R w0 e w'->Rr e w') {c1 c4 c5 c6 c7 c8 c9 bU bV bW bX bY bZ cA cB bT cC c20 c21 cD cE cF cG cH cI cJ cL cM cO cP cQ cS cT cU c37 cV cW cX cY cZ dA dB dC c46 dD dE dF dG c51 dH c53 dI dJ dL dM dO dP dQ dR dS dT dU dV dW dX dY dZ eA eC eD eH eJ c75 eK eO eR eS c80 eV eW eX eY c85 eZ fA fB fC fD fE fH fI fJ fK fL fN fO fP aA aB aD aF aG aH aI aJ aK aL aM aN aO aP aQ aR aS aT aU aV aW aX aY aZ bA bB bC c127 bD bE bF bG bH bI bJ bK bL bM bN bO bP bQ bR c143 bS:Value}:
  Code.wp Tryz.prog B5v (bodyPost Tryz.prog Tryz.f38 Rr) ⟨(.pointer (some ⟨hb,0,none⟩)::c1::.pointer (some ⟨g2,0,none⟩)::.pointer (some ⟨g3,0,none⟩)::c4::c5::c6::c7::c8::c9::bU::bV::bW::bX::bY::bZ::cA::cB::bT::cC::c20::c21::cD::cE::cF::cG::cH::cI::cJ::cL::cM::cO::cP::cQ::cS::cT::cU::c37::cV::cW::cX::cY::cZ::dA::dB::dC::c46::dD::dE::dF::dG::c51::dH::c53::dI::dJ::dL::dM::dO::dP::dQ::dR::dS::dT::dU::dV::dW::dX::dY::dZ::eA::eC::eD::eH::eJ::c75::eK::eO::eR::eS::c80::eV::eW::eX::eY::c85::eZ::fA::fB::fC::fD::fE::fH::fI::fJ::fK::fL::fN::fO::fP::aA::aB::aD::aF::aG::aH::aI::aJ::aK::aL::aM::aN::aO::aP::aQ::aR::aS::aT::aU::aV::aW::aX::aY::aZ::bA::bB::bC::c127::bD::bE::bF::bG::bH::bI::bJ::bK::bL::bM::bN::bO::bP::bQ::bR::c143::bS::[]).toArray,[]⟩ w:=by
 conv=>arg 2;whnf
 have HR:=A0 hR;have AO:=A0 AU;have AM:=A0 AD;have HH:=A0 hH;have HB:=A0 hB;have AL:=A0 AG;have AJ:=A0 AI;have d0:w.cell? ⟨hb,11,none⟩=some (.int .u64 H.aw):=by rw[zA hH];rfl
 have d1:w.cell? ⟨hb,11+1,none⟩=some (.int .i64 H.ax):=by rw[zA hH];rfl
 have e0:w.cell? ⟨g3,11,none⟩=some (.bool (!E5 H.aw H.ax)):=by rw[zA AG];rfl
 have HT:=A0 (λwx=>A9i wx H.aw H.ax AD.aw.1 AD.aw.2 AD.ax);have l3:=A8 AG;have l2:=A8 AI;have lb:=A8 hH;clear hR AU AD hH hB AG AI;go_upto_region 4 with fail
 rename_i K1 AR K2 AX;have HK:=A0 AR;clear AR;cases ha:E5 H.aw H.ax<;>rw[ha] at e0
 ·have HA:=A0 ha
  clear ha;rw[Bool.not_false] at e0;go_wp2_with fail
  refine(HT.out _).mono ?_;rintro e w1 ⟨rfl,AC⟩;have AA:=(AC.block g3 l3).trans AL.out;have f0:w1.cell? ⟨g3,12,none⟩=some (.int .i64 0):=by rw[zA AA];rfl
  have f1:w1.cell? ⟨g3,13,none⟩=some (.int .i64 0):=by rw[zA AA];rfl
  have z0:w1.frozen? ⟨g3,12,none⟩=false:=zE AA 12;have z1:w1.frozen? ⟨g3,13,none⟩=false:=zE AA 13;have s1:=B6 (i:=12) (.int .i64 (H.ax-62135596800)) AA;have s2:=B6 (i:=13) (.int .i64 H.aw) s1
  have e3: ((((ih0 H).cells.toArray.setIfInBounds 12 (.int .i64 (H.ax-62135596800))).setIfInBounds 13 (.int .i64 H.aw)):Array Value)=(ih1 H).cells.toArray:=by
   have:=HA.out;simp[ih1,ih0,ih1,ih0,IH.cells,this]
  rw[e3] at s2;have AT:hb≠g3:=by omega
  have AQ:=(C0 (a:=⟨g3,13,none⟩) (w:=w1.setCell ⟨g3,12,none⟩ (.int .i64 (H.ax-62135596800))) (.int .i64 H.aw) AT).trans ((C0 (a:=⟨g3,12,none⟩) (.int .i64 (H.ax-62135596800)) AT).trans ((AC.block hb lb).trans HH.out));have AB:=(C0 (a:=⟨g3,13,none⟩) (w:=w1.setCell ⟨g3,12,none⟩ (.int .i64 (H.ax-62135596800))) (.int .i64 H.aw) AE).trans ((C0 (a:=⟨g3,12,none⟩) (.int .i64 (H.ax-62135596800)) AE).trans ((AC.block g2 l2).trans AJ.out));have AP:=((HB.out.trans (AC.mono HB.out.size)).setCell (p:=⟨g3,12,none⟩) h3 (.int .i64 (H.ax-62135596800))).setCell (p:=⟨g3,13,none⟩) h3 (.int .i64 H.aw);have HS:=A0 s2;have AW:=A0 AQ;have AH:=A0 AB;have AV:=A0 AP;clear s1 s2 AQ AB AP AC AA e3 d0 d1 e0;go_wp2_with fail
  refine HK.out _ _ ?_;exact ho6 w0 hb g2 g3 H R AS AO.out AM.out _ AW.out AV.out h2 h3 AE HS.out z hz AH.out Rr HR.out
 ·have HA:=A0 ha
  clear ha;rw[Bool.not_true] at e0;go_wp2_with fail
  refine HK.out _ _ ?_
  have e3:ih1 H=ih0 H:=by
   have:=HA.out;simp[ih1,ih0,ih1,ih0,this]
  have HS:=AL.out;rw[<-e3] at HS;exact ho6 w0 hb g2 g3 H R AS AO.out AM.out _ HH.out HB.out h2 h3 AE HS z hz AJ.out Rr HR.out
end Go.Proofs.YtkanmkcojlefbaaGreatDoor
