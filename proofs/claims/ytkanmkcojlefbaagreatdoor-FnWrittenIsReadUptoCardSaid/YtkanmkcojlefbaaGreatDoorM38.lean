/-
  Part of the proof; holds the texts Ref7, Cn1, Tk.
-/
import Derived.Test.YtkanmkcojlefbaaGreatDoorM37
set_option maxHeartbeats 16000000
set_option maxRecDepth 100000
set_option linter.unusedSimpArgs false
set_option linter.unusedVariables false
namespace Go.Proofs.YtkanmkcojlefbaaGreatDoor
theorem QC:type_of% @AllReadyH.nil:=@AllReadyH.nil
theorem QF:type_of% @wpAnyH_ready:=@wpAnyH_ready
open Go.RowKit
theorem K4 {w:World} {g:Nat} {h:IH} (hh:w.heap[g]?=some (.cells h.cells.toArray 26 (0,0))) (k:Nat) (v:Value) (hv:h.cells[k]?=some v):w.cell? ⟨g,k,none⟩=some v:=by
 rw[zA hh,List.getElem?_toArray];exact hv
theorem B8d {w:World} {p:Addr} {v:Value} (h:w.cell? p=some v): (loadVar 24 p).run Tryz.prog w= .ok v w:=by simp[loadVar,go_sem,h]
theorem B5h {w:World} {g k:Nat} {u v:Value} (h0:w.cell? ⟨g,k,none⟩=some u) (h1:w.cell? ⟨g,k+1,none⟩=some v): (loadVar 23 ⟨g,k,none⟩).run Tryz.prog w= .ok (.agg #[u,v]) w:=by simp[loadVar,go_sem,h0,h1]
def A7O (h:IH) (L:List (List UInt8×List UInt8)) (w:World) (e:Ending) (w':World):Prop:=∃rv,e= .returned (.agg ({h with recs:=rv}:IH).scells.toArray)/\N5 w' rv L/\(rv.oneCell'=true/\A7M rv/\B8z w' w.heap.size 108 rv)/\Below w.heap.size w w'
theorem A6T (h:IH) (L:List (List UInt8×List UInt8)) (w:World) (hL:N5 w h.recs L) (Ak:L.length<=4294967296):Calls Tryz.prog 9 #[.agg h.cells.toArray] w (A7O h L w):=by
 have Ai:Hid (∀wx,Below w.heap.size w wx->Calls Tryz.prog 28 #[h.recs] wx (A9t L wx)):=A0 λwx hb=>A8S h.recs L wx (hL.below hb) Ak;clear hL;go_enter Tryz.func9,Tryz.ntmps9
 go_upto_region 1 with fail
 rename_i K1 AV;have Af:=A0 AV;clear AV;obtain⟨w1,AE⟩:∃w1,w1=(w.alloc (.cells h.cells.toArray 26)).alloc (.cells #[.int .u8 0,.string {data:=#[]},.string {data:=#[]},.int .i64 0,.int .i64 0,.int .i64 0,.int .i64 0,.string {data:=#[]},.string {data:=#[]},.int .i64 0,.int .i64 0,.bool false,.bool false,.int .i64 0,.int .i64 0,.int .i64 0,.int .i64 0,.int .i64 0,.int .i64 0,.slice none 0 0,.int .i64 0] 31):=⟨_,rfl⟩;rw[<-AE];have s1: (w.alloc (.cells h.cells.toArray 26)).heap.size=w.heap.size+1:=Array.size_push ..;have AU:Below w.heap.size w w1:=by rw[AE];exact((zD _ w).alloc (zB _) _).alloc (by omega) _
 have AP:w1.heap[w.heap.size]?=some (.cells h.cells.toArray 26 (0,0)):=by rw[AE];exact(zO _ _ _ (by omega)).trans (zI w _)
 have AW:w1.heap[w.heap.size+1]?=some (.cells #[.int .u8 0,.string {data:=#[]},.string {data:=#[]},.int .i64 0,.int .i64 0,.int .i64 0,.int .i64 0,.string {data:=#[]},.string {data:=#[]},.int .i64 0,.int .i64 0,.bool false,.bool false,.int .i64 0,.int .i64 0,.int .i64 0,.int .i64 0,.int .i64 0,.int .i64 0,.slice none 0 0,.int .i64 0] 31 (0,0)):=by rw[AE,<-s1];exact zI _ _
 clear AE s1;have AL:=A0 AP;have AJ:=A0 AU.drew;have AM:Hid (w1.drew.heap[w.heap.size]?=some (.cells h.cells.toArray 26 (0,0))):=A0 AP;have AC:Hid (w1.drew.heap[w.heap.size+1]?=some (.cells #[.int .u8 0,.string {data:=#[]},.string {data:=#[]},.int .i64 0,.int .i64 0,.int .i64 0,.int .i64 0,.string {data:=#[]},.string {data:=#[]},.int .i64 0,.int .i64 0,.bool false,.bool false,.int .i64 0,.int .i64 0,.int .i64 0,.int .i64 0,.int .i64 0,.int .i64 0,.slice none 0 0,.int .i64 0] 31 (0,0))):=A0 AW;clear AU AP AW;obtain⟨hb,AZ⟩:∃hb,hb=w.heap.size:=⟨_,rfl⟩;obtain⟨rb,AR⟩:∃rb,rb=w.heap.size+1:=⟨_,rfl⟩;have Ag:Hid (hb≠rb):=A0 (by omega);have AT:=A0 AR;rw[<-AZ] at AL AM⊢;rw[<-AR] at AC;rw[show hb+1=rb by omega];clear AZ AR;refine J1 (S:=λw'=>w'.heap[hb]?=some (.cells h.cells.toArray 26 (0,0))) (n:=39) (l0:=(bt 39 0)) (by kernel_rfl) rfl (by kernel_rfl) AL.out (λops AA hHeld=> ?_);clear AL;generalize w1.drew=v1 at*;refine tkA AA.out 0 ?_;refine tkL AA.out 1 (λw' AB=>ld5 (K4 AB 0 (.int .u8 h.typ) rfl)) ?_;refine tkA AA.out 2 ?_;refine tkL AA.out 3 (λw' AB=>ld9 (K4 AB 1 (str h.name) rfl)) ?_;refine tkA AA.out 4 ?_;refine tkL AA.out 5 (λw' AB=>ld9 (K4 AB 2 (str h.link) rfl)) ?_;refine tkA AA.out 6 ?_;refine tkL AA.out 7 (λw' AB=>ld2 (K4 AB 3 (.int .i64 h.size) rfl)) ?_;refine tkA AA.out 8 ?_;refine tkL AA.out 9 (λw' AB=>ld2 (K4 AB 4 (.int .i64 h.mode) rfl)) ?_;refine tkA AA.out 10 ?_;refine tkL AA.out 11 (λw' AB=>ld3 (K4 AB 5 (.int .i64 h.uid) rfl)) ?_;refine tkA AA.out 12 ?_
 refine tkL AA.out 13 (λw' AB=>ld3 (K4 AB 6 (.int .i64 h.gid) rfl)) ?_;refine tkA AA.out 14 ?_;refine tkL AA.out 15 (λw' AB=>ld9 (K4 AB 7 (str h.user) rfl)) ?_;refine tkA AA.out 16 ?_;refine tkL AA.out 17 (λw' AB=>ld9 (K4 AB 8 (str h.group) rfl)) ?_;refine tkA AA.out 18 ?_;refine tkL AA.out 19 (λw' AB=>B5h (K4 AB 9 (.int .i64 h.ms) rfl) (K4 AB 10 (.int .i64 h.mn) rfl)) ?_;refine tkA AA.out 20 ?_;refine tkL AA.out 21 (λw' AB=>ld4 (K4 AB 11 (.bool h.hasA) rfl)) ?_;refine tkA AA.out 22 ?_;refine tkL AA.out 23 (λw' AB=>B5h (K4 AB 12 (.int .i64 h.ats) rfl) (K4 AB 13 (.int .i64 h.atn) rfl)) ?_;refine tkA AA.out 24 ?_;refine tkL AA.out 25 (λw' AB=>ld4 (K4 AB 14 (.bool h.hasC) rfl)) ?_;refine tkA AA.out 26 ?_;refine tkL AA.out 27 (λw' AB=>B5h (K4 AB 15 (.int .i64 h.cts) rfl) (K4 AB 16 (.int .i64 h.ctn) rfl)) ?_;refine tkA AA.out 28 ?_;refine tkL AA.out 29 (λw' AB=>ld2 (K4 AB 17 (.int .i64 h.maj) rfl)) ?_;refine tkA AA.out 30 ?_;refine tkL AA.out 31 (λw' AB=>ld2 (K4 AB 18 (.int .i64 h.mnr) rfl)) ?_;refine tkA AA.out 32 ?_;refine tkL AA.out 33 (λw' AB=>B8d (K4 AB 19 (h.recs) rfl)) ?_;refine tkA AA.out 35 ?_;refine tkL AA.out 36 (λw' AB=>ld3 (K4 AB 20 (.int .i64 h.fmt) rfl)) ?_;refine QF (rs:=[34]) (by rw[AA.out];kernel_rfl) (by simp) ?_;refine D5 AA.out (l':=(bt 39 137438953471)) (by simp only[I8,I9,J0];exact rfl) (by kernel_rfl) (λK hK=> ?_) QC;go_simp
 go_at_call 28
 refine(Ai.out _ AJ.out).mono ?_;rintro e u1 ⟨rv,rfl,AH,Aa,AX,AG⟩;obtain⟨pp,cc,rfl,AY⟩:=AH;have AH:N5 u1 (.slice pp L.length cc) L:=⟨pp,cc,rfl,AY⟩;clear AY;have Ad:=A0 (AJ.out.trans (AG.mono AJ.out.size));have AS:=A0 ((AG.block hb (A8 AM.out)).trans AM.out);have Aj:=A0 ((AG.block rb (A8 AC.out)).trans AC.out);have Ah:=A0 AH;have AO:=A0 Aa;have AI:=A0 AX;refine hK.out _ _ AS.out (λhHeld=> ?_);clear hK K AG AH Aa AX;try simp only[Act.put,C5,C6,C7]
 refine tkA AA.out 37 ?_;refine QF (rs:=[38]) (by rw[AA.out];kernel_rfl) (by simp) ?_;refine D5 AA.out (l':=(bt 39 549755813887)) (by simp only[I8,I9,J0];exact rfl) (by kernel_rfl) (λK hK=> ?_) QC;obtain⟨w3,Ac,hg,ho,hz,-⟩:=A1X ({h with recs:= .slice pp L.length cc}:IH) AO.out.1 rfl Aj.out;refine O3 rfl 31 _ _ rfl ⟨rb,0,none⟩ rfl _ rfl w3 Ac ?_;have Ae:=A0 ((ho hb Ag.out).trans AS.out);refine hK.out _ _ Ae.out (λhHeld=> ?_);clear hK K;refine wpAnyH_done (by rw[AA.out];kernel_rfl) ?_ _;refine Af.out _ _ ?_
 have AD:A7O h L w (.returned (.agg ({h with recs:= .slice pp L.length cc}:IH).scells.toArray)) w3:=by
  have Ab:∀p n c,Value.slice pp L.length cc= .slice (some p) n c->w.heap.size<=p.block/\p.block≠rb:=λp n c e=>by
   have h1:=(AI.out p n c e).1;have:=A8 AC.out;have:=AT.out;exact⟨by omega,by omega⟩
  refine⟨_,rfl,?_,⟨AO.out.1,AO.out.2,λp n c e=>⟨(Ab p n c e).1,(AI.out p n c e).2.imp λcur h=>h.imp λfz h=>(ho _ (Ab p n c e).2).trans h⟩⟩,hz _ _ Ad.out (by rw[AT.out];omega)⟩;obtain⟨p,c,hv,hc⟩:=Ah.out;refine⟨p,c,hv,λj hj=> ?_⟩;obtain⟨rg,ro,rfl,h2,h3,h4⟩:=hc j hj
  have AQ:rg≠rb:=by
   have:=(AI.out _ _ _ hv).1;have:=A8 AC.out;intro e;simp only at*;omega
  refine⟨rg,ro,rfl,?_,?_,?_⟩
  ·have h5:w3.heap[rg]?=u1.heap[rg]?:=ho rg AQ
   rw[Array.getElem?_eq_getElem h2] at h5;exact A8 h5
  ·rw[zZ (w:=u1) (a:=⟨rg,ro+j*2,none⟩) (ho rg AQ)];exact h3
  ·rw[zZ (w:=u1) (a:=⟨rg,ro+j*2+1,none⟩) (ho rg AQ)];exact h4
 have HF:=A0 AD;have HG:=A0 hg;clear Ac hg ho hz AD;go_wp2_with fail
 exact B0I rb _ rfl w3 rfl rfl rfl HG.out HF.out
end Go.Proofs.YtkanmkcojlefbaaGreatDoor
namespace Go.Proofs.YtkanmkcojlefbaaGreatDoor
open Go.RowKit
variable {c0 c1 c2 c3 c4 c5 c6 c7 c8 c9 gH gI gJ gK gL gM gN gO gP gG c20 c21 gQ gR gT gU gW gX gY gZ hJ hZ iA iB iC iD iE c37 iF iG iH iI iJ iK iL iM c46 iN iO iP iQ c51 iR c53 iS iT iU iV iW iX iY iZ jA jB jC jD jE jF jG jH jI jJ jK jL jM c75 jN jO jP jQ c80 jR jS jT jU c85 jV jW jX jY jZ kA kB kC kD kE kF kG kH kI aA aB aD aF aG aH aI aJ aK aL aM aN aO aP aQ aR aS aT aU aV aW aX aY aZ bA bB bC c127 bD bE bF bG bH bI bJ bK bL bM bN bO bP bQ bR c143 bS c145 bT bU bV bW bX bY bZ cA cB cC cD cE cF cG cH cI cJ cL cM cO cP c167 c168 cQ cS c171 cT c173 cU c175 cV cW cX cY cZ dA dB dC dD dE dF dG dH dI dJ dL dM dO dP dQ dR dS dT dU dV dW dX dY dZ eA eC eD eH eJ c210 eK c212 c213 eO eR eS eV eW eX eY eZ fA fB fC fD fE fH fI fJ fK fL c232 c233 fN fO fP fQ fR fS fT fU fV fW fX fY fZ gA gB gC gD gE gF:Value}
noncomputable def B4O:Code:=I2 12 (Tryz.f27.body.getD .skip)
noncomputable def B4P:Code:=I2 13 (Tryz.f27.body.getD .skip)
noncomputable def B4Q:Code:=I2 14 (Tryz.f27.body.getD .skip)
noncomputable def B4R:Code:=I2 15 (Tryz.f27.body.getD .skip)
noncomputable def B4S:Code:=I2 17 (Tryz.f27.body.getD .skip)
noncomputable def B4T:Code:=I2 19 (Tryz.f27.body.getD .skip)
noncomputable def B4U:Code:=I2 21 (Tryz.f27.body.getD .skip)
noncomputable def B4V:Code:=I2 23 (Tryz.f27.body.getD .skip)
noncomputable def B4W:Code:=I2 25 (Tryz.f27.body.getD .skip)
def B6k (L:List (List UInt8×List UInt8)):Prop:=∀r∈L,A2r r.1 r.2
def B6j (L:List (List UInt8×List UInt8)) (f:Int):Prop:=(L≠ []->f=2)/\B6k L
def B6i (h:IH) (L:List (List UInt8×List UInt8)) (f:Int):Prop:=(h.hasC=true->M1 h.cts h.ctn f)/\B6j L f
def B6h (h:IH) (L:List (List UInt8×List UInt8)) (f:Int):Prop:=(h.hasA=true->M1 h.ats h.atn f)/\B6i h L f
def tri (v:Int):Prop:=v=0\/v=1\/v=2
structure CS (hb:Nat) (h:IH) (L:List (List UInt8×List UInt8)) (w0 w:World):Prop where
 S:SB hb h w
 B:Below w0.heap.size w0 w
 h0:w0.heap.size<=hb
 R:N5 w0 h.recs L
 RL:∀r∈L,r.1.length<4611686018427387904/\r.2.length<4611686018427387904
 RN:L.length<4611686018427387904
theorem CS.below {hb:Nat} {h:IH} {L:List (List UInt8×List UInt8)} {w0 w w':World} (k:CS hb h L w0 w) (f:Below w.heap.size w w'):CS hb h L w0 w':=⟨k.S.below f (A8 k.S),k.B.trans (f.mono k.B.size),k.h0,k.R,k.RL,k.RN⟩
theorem CS.alloc {hb:Nat} {h:IH} {L:List (List UInt8×List UInt8)} {w0 w w':World} (k:CS hb h L w0 w) (o:Obj) (f:Below (w.alloc o).heap.size (w.alloc o) w'):CS hb h L w0 w':=(k.below ((zD _ w).alloc (zB _) o)).below f
theorem A1Y {v m:Int} (h1:tri v) (h2:tri m):∀x∈[v,m],x=0\/x=1\/x=2:=by
 intro x hx;simp at hx;rcases hx with rfl|rfl<;>assumption
theorem B1y (f:Int) (h:IH) (L:List (List UInt8×List UInt8)) (hb:Nat) (v v4:Int) (w w0:World) (K:CS hb h L w0 w) (hv:tri v) (P:Prop) (hP:v=1->B6k L->P):
  Code.wp Tryz.prog B4W (bodyPost Tryz.prog Tryz.f27 (P9 P w0)) ⟨(c0::.int .i64 f::.pointer (some ⟨hb,0,none⟩)::c3::.int .i64 v4::.int .i64 v::c6::c7::c8::c9::gH::gI::gJ::gK::gL::gM::gN::gO::gP::gG::c20::c21::gQ::gR::gT::gU::gW::gX::gY::gZ::hJ::hZ::iA::iB::iC::iD::iE::c37::iF::iG::iH::iI::iJ::iK::iL::iM::c46::iN::iO::iP::iQ::c51::iR::c53::iS::iT::iU::iV::iW::iX::iY::iZ::jA::jB::jC::jD::jE::jF::jG::jH::jI::jJ::jK::jL::jM::c75::jN::jO::jP::jQ::c80::jR::jS::jT::jU::c85::jV::jW::jX::jY::jZ::kA::kB::kC::kD::kE::kF::kG::kH::kI::aA::aB::aD::aF::aG::aH::aI::aJ::aK::aL::aM::aN::aO::aP::aQ::aR::aS::aT::aU::aV::aW::aX::aY::aZ::bA::bB::bC::c127::bD::bE::bF::bG::bH::bI::bJ::bK::bL::bM::bN::bO::bP::bQ::bR::c143::bS::c145::bT::bU::bV::bW::bX::bY::bZ::cA::cB::cC::cD::cE::cF::cG::cH::cI::cJ::cL::cM::cO::cP::c167::c168::cQ::cS::c171::cT::c173::cU::c175::cV::cW::cX::cY::cZ::dA::dB::dC::dD::dE::dF::dG::dH::dI::dJ::dL::dM::dO::dP::dQ::dR::dS::dT::dU::dV::dW::dX::dY::dZ::eA::eC::eD::eH::eJ::c210::eK::c212::c213::eO::eR::eS::eV::eW::eX::eY::eZ::fA::fB::fC::fD::fE::fH::fI::fJ::fK::fL::c232::c233::fN::fO::fP::fQ::fR::fS::fT::fU::fV::fW::fX::fY::fZ::gA::gB::gC::gD::gE::gF::[]).toArray,[]⟩ w:=by
 conv=>arg 2;whnf
 have HK:=A0 K;have HP:=A0 hP;have HV:=A0 hv;clear K hP hv;obtain⟨p,c,hr,AJ⟩:=HK.out.R;have gG:=HK.out.S.cell 19 (.slice p L.length c) (by rw[<-hr];rfl);have AC:=A0 AJ;have AT:=HK.out.RN;clear AJ hr;go_wp2_with fail
 go_loopw [242,5] (λs242 s5 wr=>∃ (k:Nat) (u:Int),s242= .int .i64 k/\s5= .int .i64 u/\k<=L.length/\Hid (CS hb h L w0 wr/\tri u/\(u=1->v=1/\∀ (j:Nat) (hj:j<L.length),j<k->A2r L[j].1 L[j].2))) (λs242 _ _=>L.length- (intOf s242).toNat)
 case atStart=>exact⟨0,v,rfl,rfl,zW _,A0 ⟨HK.out,HV.out,λe=>⟨e,λj _ hj=>absurd hj (Nat.not_lt_zero _)⟩⟩⟩
 case round=>
  obtain⟨k,u,rfl,rfl,hk,HS⟩:=hrel;clear gG;by_cases AL:k<L.length
  ·have AA: (k:Int)<L.length:=by omega
   obtain⟨rg,ro,rfl,AO,k1,k2⟩:=AC.out k AL;have ck:wr.cell? ⟨rg,ro+k*2,none⟩=some (str L[k].1):=(HS.out.1.B.cell (p:=⟨rg,ro+k*2,none⟩) AO).trans k1;have cv:wr.cell? ⟨rg,ro+k*2+1,none⟩=some (str L[k].2):=(HS.out.1.B.cell (p:=⟨rg,ro+k*2+1,none⟩) AO).trans k2;have AE:=A0 (HK.out.RL L[k] (List.getElem_mem AL))
   have AG:Hid (∀ (u2:Int) (w2:World),CS hb h L w0 w2->tri u2->(u2=1->u=1/\A2r L[k].1 L[k].2)->CS hb h L w0 w2/\tri u2/\(u2=1->v=1/\∀ (j:Nat) (hj:j<L.length),j<k+1->A2r L[j].1 L[j].2)):=A0 λu2 w2 q1 q2 q3=>⟨q1,q2,λe=>by
    obtain⟨e1,e2⟩:=q3 e;obtain⟨e3,e4⟩:=HS.out.2.2 e1;refine⟨e3,λj hj AU=> ?_⟩;by_cases AS:j<k
    ·exact e4 j hj AS
    ·obtain rfl:j=k:=by omega
     exact e2⟩
   clear k1 k2;generalize L[k].1=kk at*;generalize L[k].2=vv at*;have HU:=A0 HS.out.2.1;go_wp2_with fail
   refine(A8R kk vv _ AE.out.1 AE.out.2).mono ?_;rintro e w1 ⟨x,rfl,AH,hx,AM⟩;have AD:=A0 (HS.out.1.alloc _ AH);have HX:=A0 hx;have AR:=A0 AM;clear AH hx AM ck cv;go_wp2_with fail
   refine(M8 [u,x] w1.heap.size 2 _ (O5 w1 [.int .i64 u,.int .i64 x] 3) (A1Y HU.out HX.out) (by simp)).mono ?_;rintro e w2 ⟨u2,rfl,AI,AP,AB⟩;have AQ:=A0 (AG.out u2 w2 (AD.out.alloc _ AI) AP (λe=>⟨AB e u (by simp),AR.out (AB e x (by simp))⟩));clear AI AP AB AG HS AD;go_wp2_with fail
   go_roundw
   case rel=>exact⟨k+1,u2,by go_num,rfl,by omega,AQ⟩
   case measure=>simp[intOf];omega
  ·have AA:¬(k:Int)<L.length:=by omega
   obtain⟨q1,q2,q3⟩:=HS.out
   have HF:Hid (u=1->P):=A0 λe=>HP.out (q3 e).1 (λr hr=>by
    obtain⟨j,hj,e2⟩:=List.getElem_of_mem hr;rw[<-e2];exact(q3 e).2 j hj (by omega))
   have HB:=A0 q1.B;have HT:=A0 q2;clear q1 q2 q3 HS HK HP HV AC;go_wp2_with fail
   go_ret
   exact⟨u,rfl,HB.out,HT.out,HF.out⟩
theorem B4t (f:Int) (h:IH) (L:List (List UInt8×List UInt8)) (hb:Nat) (v v4:Int) (w w0:World) (K:CS hb h L w0 w) (hv:tri v) (P:Prop) (hP:v=1->B6j L f->P):
  Code.wp Tryz.prog B4V (bodyPost Tryz.prog Tryz.f27 (P9 P w0)) ⟨(c0::.int .i64 f::.pointer (some ⟨hb,0,none⟩)::c3::.int .i64 v4::.int .i64 v::c6::c7::c8::c9::gH::gI::gJ::gK::gL::gM::gN::gO::gP::gG::c20::c21::gQ::gR::gT::gU::gW::gX::gY::gZ::hJ::hZ::iA::iB::iC::iD::iE::c37::iF::iG::iH::iI::iJ::iK::iL::iM::c46::iN::iO::iP::iQ::c51::iR::c53::iS::iT::iU::iV::iW::iX::iY::iZ::jA::jB::jC::jD::jE::jF::jG::jH::jI::jJ::jK::jL::jM::c75::jN::jO::jP::jQ::c80::jR::jS::jT::jU::c85::jV::jW::jX::jY::jZ::kA::kB::kC::kD::kE::kF::kG::kH::kI::aA::aB::aD::aF::aG::aH::aI::aJ::aK::aL::aM::aN::aO::aP::aQ::aR::aS::aT::aU::aV::aW::aX::aY::aZ::bA::bB::bC::c127::bD::bE::bF::bG::bH::bI::bJ::bK::bL::bM::bN::bO::bP::bQ::bR::c143::bS::c145::bT::bU::bV::bW::bX::bY::bZ::cA::cB::cC::cD::cE::cF::cG::cH::cI::cJ::cL::cM::cO::cP::c167::c168::cQ::cS::c171::cT::c173::cU::c175::cV::cW::cX::cY::cZ::dA::dB::dC::dD::dE::dF::dG::dH::dI::dJ::dL::dM::dO::dP::dQ::dR::dS::dT::dU::dV::dW::dX::dY::dZ::eA::eC::eD::eH::eJ::c210::eK::c212::c213::eO::eR::eS::eV::eW::eX::eY::eZ::fA::fB::fC::fD::fE::fH::fI::fJ::fK::fL::c232::c233::fN::fO::fP::fQ::fR::fS::fT::fU::fV::fW::fX::fY::fZ::gA::gB::gC::gD::gE::gF::[]).toArray,[]⟩ w:=by
 conv=>arg 2;whnf
 have HK:=A0 K;have HP:=A0 hP;have HV:=A0 hv;clear K hP hv;obtain⟨p,c,hr,AM⟩:=HK.out.R;have gG:=HK.out.S.cell 19 (.slice p L.length c) (by rw[<-hr];rfl);clear hr AM;by_cases hn:0<L.length
 ·have AO: (0:Int)<L.length:=by omega
  by_cases h2:f=2
  ·have HF:Hid (L≠ []->f=2):=A0 λ_=>h2
   have AJ: (f==2)=true:=by rw[h2];rfl
   have AL: (f !=2)=false:=by rw[h2];rfl
   clear h2;refine wp_seq_k (λK1 AA=> ?_);have AB:=A0 AA;clear AA;go_wp2_with fail
   refine AB.out _ _ ?_;exact B1y f h L hb v v4 w w0 HK.out HV.out P (λe k=>HP.out e ⟨HF.out,k⟩)
  ·have AJ: (f==2)=false:=by simpa using h2
   have AL: (f !=2)=true:=by simpa using h2
   clear h2;refine wp_seq_k (λK1 AA=> ?_);have AB:=A0 AA;clear AA;go_wp2_with fail
   refine(M8 [v,2] w.heap.size 2 _ (O5 w [.int .i64 v,.int .i64 2] 3) (A1Y HV.out (.inr (.inr rfl))) (by simp)).mono ?_;rintro e w2 ⟨v2,rfl,AC,AE,AD⟩;have AG:=A0 (HK.out.alloc _ AC);have AI:=A0 AE;have AH:=A0 AD;clear AC AE AD;go_wp2_with fail
   refine AB.out _ _ ?_;exact B1y f h L hb v2 v4 w2 w0 AG.out AI.out P (λe _=>absurd (AH.out e 2 (by simp)) (by decide))
 ·have AO:¬(0:Int)<L.length:=by omega
  have HF:Hid (L≠ []->f=2):=A0 λAP=>absurd (List.length_pos_iff.2 AP) hn;refine wp_seq_k (λK1 AA=> ?_);have AB:=A0 AA;clear AA;go_wp2_with fail
  refine AB.out _ _ ?_;exact B1y f h L hb v v4 w w0 HK.out HV.out P (λe k=>HP.out e ⟨HF.out,k⟩)
theorem B4s (f:Int) (h:IH) (L:List (List UInt8×List UInt8)) (hb:Nat) (v v4:Int) (w w0:World) (K:CS hb h L w0 w) (hv:tri v) (P:Prop) (hP:v=1->B6i h L f->P):
  Code.wp Tryz.prog B4U (bodyPost Tryz.prog Tryz.f27 (P9 P w0)) ⟨(c0::.int .i64 f::.pointer (some ⟨hb,0,none⟩)::c3::.int .i64 v4::.int .i64 v::c6::c7::c8::c9::gH::gI::gJ::gK::gL::gM::gN::gO::gP::gG::c20::c21::gQ::gR::gT::gU::gW::gX::gY::gZ::hJ::hZ::iA::iB::iC::iD::iE::c37::iF::iG::iH::iI::iJ::iK::iL::iM::c46::iN::iO::iP::iQ::c51::iR::c53::iS::iT::iU::iV::iW::iX::iY::iZ::jA::jB::jC::jD::jE::jF::jG::jH::jI::jJ::jK::jL::jM::c75::jN::jO::jP::jQ::c80::jR::jS::jT::jU::c85::jV::jW::jX::jY::jZ::kA::kB::kC::kD::kE::kF::kG::kH::kI::aA::aB::aD::aF::aG::aH::aI::aJ::aK::aL::aM::aN::aO::aP::aQ::aR::aS::aT::aU::aV::aW::aX::aY::aZ::bA::bB::bC::c127::bD::bE::bF::bG::bH::bI::bJ::bK::bL::bM::bN::bO::bP::bQ::bR::c143::bS::c145::bT::bU::bV::bW::bX::bY::bZ::cA::cB::cC::cD::cE::cF::cG::cH::cI::cJ::cL::cM::cO::cP::c167::c168::cQ::cS::c171::cT::c173::cU::c175::cV::cW::cX::cY::cZ::dA::dB::dC::dD::dE::dF::dG::dH::dI::dJ::dL::dM::dO::dP::dQ::dR::dS::dT::dU::dV::dW::dX::dY::dZ::eA::eC::eD::eH::eJ::c210::eK::c212::c213::eO::eR::eS::eV::eW::eX::eY::eZ::fA::fB::fC::fD::fE::fH::fI::fJ::fK::fL::c232::c233::fN::fO::fP::fQ::fR::fS::fT::fU::fV::fW::fX::fY::fZ::gA::gB::gC::gD::gE::gF::[]).toArray,[]⟩ w:=by
 conv=>arg 2;whnf
 have HK:=A0 K;have HP:=A0 hP;have HV:=A0 hv;clear K hP hv;cases hc:h.hasC with
 |false=>
  have c1:=HK.out.S.cell 12 (.bool false) (by rw[<-hc];rfl);have HC:=A0 hc;clear hc;refine wp_seq_k (λK1 AA=> ?_);have AB:=A0 AA;clear AA;go_wp2_with fail
  refine AB.out _ _ ?_;exact B4t f h L hb v v4 w w0 HK.out HV.out P (λe k=>HP.out e ⟨λe=>(by rw[HC.out] at e;cases e),k⟩)
 |true=>
  have c1:=HK.out.S.cell 12 (.bool true) (by rw[<-hc];rfl);have c2:=HK.out.S.cell 15 (.int .i64 h.cts) rfl;have c3:=HK.out.S.cell 16 (.int .i64 h.ctn) rfl;have HC:=A0 hc;clear hc;refine wp_seq_k (λK1 AA=> ?_);have AB:=A0 AA;clear AA;go_wp2_with fail
  refine(W2 h.cts h.ctn f w).mono ?_;rintro e w1 ⟨m,rfl,AD,hm,AG⟩;have AJ:=A0 (HK.out.below AD);have HM:=A0 hm;have AM:=A0 AG;clear AD hm AG c1 c2 c3;go_wp2_with fail
  refine(M8 [v,m] w1.heap.size 2 _ (O5 w1 [.int .i64 v,.int .i64 m] 3) (A1Y HV.out HM.out) (by simp)).mono ?_;rintro e w2 ⟨v2,rfl,AE,AI,AH⟩;have AL:=A0 (AJ.out.alloc _ AE);have AO:=A0 AI;have AC:=A0 AH;clear AE AI AH;go_wp2_with fail
  refine AB.out _ _ ?_;exact B4t f h L hb v2 v4 w2 w0 AL.out AO.out P (λe k=>HP.out (AC.out e v (by simp)) ⟨λ_=>AM.out (AC.out e m (by simp)),k⟩)
theorem A7a (f:Int) (h:IH) (L:List (List UInt8×List UInt8)) (hb:Nat) (v v4:Int) (w w0:World) (K:CS hb h L w0 w) (hv:tri v) (P:Prop) (hP:v=1->B6h h L f->P):
  Code.wp Tryz.prog B4T (bodyPost Tryz.prog Tryz.f27 (P9 P w0)) ⟨(c0::.int .i64 f::.pointer (some ⟨hb,0,none⟩)::c3::.int .i64 v4::.int .i64 v::c6::c7::c8::c9::gH::gI::gJ::gK::gL::gM::gN::gO::gP::gG::c20::c21::gQ::gR::gT::gU::gW::gX::gY::gZ::hJ::hZ::iA::iB::iC::iD::iE::c37::iF::iG::iH::iI::iJ::iK::iL::iM::c46::iN::iO::iP::iQ::c51::iR::c53::iS::iT::iU::iV::iW::iX::iY::iZ::jA::jB::jC::jD::jE::jF::jG::jH::jI::jJ::jK::jL::jM::c75::jN::jO::jP::jQ::c80::jR::jS::jT::jU::c85::jV::jW::jX::jY::jZ::kA::kB::kC::kD::kE::kF::kG::kH::kI::aA::aB::aD::aF::aG::aH::aI::aJ::aK::aL::aM::aN::aO::aP::aQ::aR::aS::aT::aU::aV::aW::aX::aY::aZ::bA::bB::bC::c127::bD::bE::bF::bG::bH::bI::bJ::bK::bL::bM::bN::bO::bP::bQ::bR::c143::bS::c145::bT::bU::bV::bW::bX::bY::bZ::cA::cB::cC::cD::cE::cF::cG::cH::cI::cJ::cL::cM::cO::cP::c167::c168::cQ::cS::c171::cT::c173::cU::c175::cV::cW::cX::cY::cZ::dA::dB::dC::dD::dE::dF::dG::dH::dI::dJ::dL::dM::dO::dP::dQ::dR::dS::dT::dU::dV::dW::dX::dY::dZ::eA::eC::eD::eH::eJ::c210::eK::c212::c213::eO::eR::eS::eV::eW::eX::eY::eZ::fA::fB::fC::fD::fE::fH::fI::fJ::fK::fL::c232::c233::fN::fO::fP::fQ::fR::fS::fT::fU::fV::fW::fX::fY::fZ::gA::gB::gC::gD::gE::gF::[]).toArray,[]⟩ w:=by
 conv=>arg 2;whnf
 have HK:=A0 K;have HP:=A0 hP;have HV:=A0 hv;clear K hP hv;cases hc:h.hasA with
 |false=>
  have c1:=HK.out.S.cell 11 (.bool false) (by rw[<-hc];rfl);have HC:=A0 hc;clear hc;refine wp_seq_k (λK1 AA=> ?_);have AB:=A0 AA;clear AA;go_wp2_with fail
  refine AB.out _ _ ?_;exact B4s f h L hb v v4 w w0 HK.out HV.out P (λe k=>HP.out e ⟨λe=>(by rw[HC.out] at e;cases e),k⟩)
 |true=>
  have c1:=HK.out.S.cell 11 (.bool true) (by rw[<-hc];rfl);have c2:=HK.out.S.cell 13 (.int .i64 h.ats) rfl;have c3:=HK.out.S.cell 14 (.int .i64 h.atn) rfl;have HC:=A0 hc;clear hc;refine wp_seq_k (λK1 AA=> ?_);have AB:=A0 AA;clear AA;go_wp2_with fail
  refine(W2 h.ats h.atn f w).mono ?_;rintro e w1 ⟨m,rfl,AD,hm,AG⟩;have AJ:=A0 (HK.out.below AD);have HM:=A0 hm;have AM:=A0 AG;clear AD hm AG c1 c2 c3;go_wp2_with fail
  refine(M8 [v,m] w1.heap.size 2 _ (O5 w1 [.int .i64 v,.int .i64 m] 3) (A1Y HV.out HM.out) (by simp)).mono ?_;rintro e w2 ⟨v2,rfl,AE,AI,AH⟩;have AL:=A0 (AJ.out.alloc _ AE);have AO:=A0 AI;have AC:=A0 AH;clear AE AI AH;go_wp2_with fail
  refine AB.out _ _ ?_;exact B4s f h L hb v2 v4 w2 w0 AL.out AO.out P (λe k=>HP.out (AC.out e v (by simp)) ⟨λ_=>AM.out (AC.out e m (by simp)),k⟩)
end Go.Proofs.YtkanmkcojlefbaaGreatDoor
namespace Go.Proofs.YtkanmkcojlefbaaGreatDoor
open Go.RowKit
def S0 (n k:Nat):Array Bool:=((List.range n).map λi=>Nat.testBit k i).toArray
section
variable {ops ops0:Array Oper} {Q:Exit->Act->World->Prop} {S:World->Prop} {md:Region.Mode} {oi:Oper} {fuel:Nat} {listed:Array Bool} {a:Act} {w:World}
theorem tk (AA:ops=ops0) (i:Nat) (d:Option Tmp) (n k:Nat) (v:Value) (a':Act)
  (hy:∀w,S w->(execOp a.eval oi).run Tryz.prog w= .ok (.value v) w) (ha:a.put d v=a') (h:wpAnyH Tryz.prog md ops Q S fuel (S0 n k) a' w)
  (hi:ops0[i]?=some oi:=by(simp only[I8,I9,J0];exact rfl))
  (hs:Region.noSelect ops0=true:=by kernel_rfl) (hf:Region.free md ops0 listed i=true:=by kernel_rfl) (hr: (Region.ready md ops0 listed).contains i=true:=by kernel_rfl)
  (hQ:∀c a w,Q (.panic c) (a.put d v) w->Q (.panic c) a w:=by exact λ_ _ _ h=>h) (hw:Region.wanted oi (yielded ops a.tmps)=true:=by rfl) (hS:S w:=by assumption) (hd:oi.dst=d:=by rfl) (hl:listed.setIfInBounds i true=S0 n k:=by kernel_rfl):wpAnyH Tryz.prog md ops Q S (fuel+1) listed a w:=by
 subst AA;subst hd;subst ha;rw[<-hl] at h;exact wpAnyH_take hi hs hf hr hQ (.inl ⟨hw,hy⟩) hS h
theorem tkg (AA:ops=ops0) (i:Nat) (d:Option Tmp) (n k:Nat) (v:Value) (a':Act)
  (hy:∀w,S w->(execOp a.eval oi).run Tryz.prog w= .ok (.value v) w) (ha:a.put d v=a') (h:wpAnyH Tryz.prog md ops Q S fuel (S0 n k) a' w)
  (hi:ops0[i]?=some oi:=by(simp only[I8,I9,J0];exact rfl))
  (hs:Region.noSelect ops0=true:=by kernel_rfl) (hf:Region.free md ops0 listed i=true:=by kernel_rfl) (hr: (Region.ready md ops0 listed).contains i=true:=by kernel_rfl)
  (hQ:∀c a w,Q (.panic c) (a.put d v) w->Q (.panic c) a w:=by exact λ_ _ _ h=>h) (hw:Region.wanted oi (yielded ops0 a.tmps)=true:=by kernel_rfl) (hS:S w:=by assumption) (hd:oi.dst=d:=by rfl) (hl:listed.setIfInBounds i true=S0 n k:=by kernel_rfl):wpAnyH Tryz.prog md ops Q S (fuel+1) listed a w:=by
 subst AA;subst hd;subst ha;rw[<-hl] at h;exact wpAnyH_take hi hs hf hr hQ (.inl ⟨hw,hy⟩) hS h
theorem tku (AA:ops=ops0) (i:Nat) (d:Option Tmp) (n k:Nat) (a':Act)
  (ha:a.put d undef=a') (h:wpAnyH Tryz.prog md ops Q S fuel (S0 n k) a' w)
  (hi:ops0[i]?=some oi:=by(simp only[I8,I9,J0];exact rfl))
  (hs:Region.noSelect ops0=true:=by kernel_rfl) (hf:Region.free md ops0 listed i=true:=by kernel_rfl) (hr: (Region.ready md ops0 listed).contains i=true:=by kernel_rfl)
  (hQ:∀c a w,Q (.panic c) (a.put d undef) w->Q (.panic c) a w:=by exact λ_ _ _ h=>h) (hw:Region.wanted oi (yielded ops0 a.tmps)=false:=by kernel_rfl) (hS:S w:=by assumption) (hd:oi.dst=d:=by rfl) (hl:listed.setIfInBounds i true=S0 n k:=by kernel_rfl):wpAnyH Tryz.prog md ops Q S (fuel+1) listed a w:=by
 subst AA;subst hd;subst ha;rw[<-hl] at h;exact wpAnyH_take hi hs hf hr hQ (.inr ⟨hw,rfl⟩) hS h
theorem tkl (AA:ops=ops0) (i:Nat) (d:Option Tmp) (n k:Nat) (p:Addr) (v:Value) (a':Act) {ty:TypeId} {x:Operand} (hv:∀w,S w->(loadVar ty p).run Tryz.prog w= .ok v w)
  (ha:a.put d v=a') (h:wpAnyH Tryz.prog md ops Q S fuel (S0 n k) a' w)
  (hi:ops0[i]?=some oi:=by(simp only[I8,I9,J0];exact rfl))
  (ho:oi.op= .load ty x:=by rfl) (hx:a.eval x= .pointer (some p):=by rfl)
  (hs:Region.noSelect ops0=true:=by kernel_rfl) (hf:Region.free md ops0 listed i=true:=by kernel_rfl) (hr: (Region.ready md ops0 listed).contains i=true:=by kernel_rfl)
  (hQ:∀c a w,Q (.panic c) (a.put d v) w->Q (.panic c) a w:=by exact λ_ _ _ h=>h) (hw:Region.wanted oi (yielded ops0 a.tmps)=true:=by kernel_rfl) (hS:S w:=by assumption) (hd:oi.dst=d:=by rfl) (hl:listed.setIfInBounds i true=S0 n k:=by kernel_rfl):wpAnyH Tryz.prog md ops Q S (fuel+1) listed a w:=by
 subst AA;subst hd;subst ha;rw[<-hl] at h;exact wpAnyH_take hi hs hf hr hQ (C3 hw _ _ ho p hx v hv) hS h
theorem rdy (AA:ops=ops0) (i:Nat) (n k:Nat)
  (h:∀K':Act->World->Prop,Hid (∀a w,S w->(S w->wpAnyH Tryz.prog md ops Q S fuel (S0 n k) a w)->K' a w)->if Region.wanted oi (yielded ops a.tmps)=true then Oper.wp Tryz.prog oi a w K' Q else K' (a.put oi.dst undef) w)
  (hi:ops0[i]?=some oi:=by(simp only[I8,I9,J0];exact rfl))
  (hr:Region.ready md ops0 listed=[i]:=by kernel_rfl) (hl:listed.setIfInBounds i true=S0 n k:=by kernel_rfl):wpAnyH Tryz.prog md ops Q S (fuel+1) listed a w:=by
 subst AA;rw[<-hl] at h;exact QF hr (by simp) (AllReadyH.cons hi h QC)
end
end Go.Proofs.YtkanmkcojlefbaaGreatDoor
