/-
  Part of the proof; holds the texts Cn2.
-/
import Derived.Test.YtkanmkcojlefbaaGreatDoorM38
set_option maxHeartbeats 16000000
set_option maxRecDepth 100000
set_option linter.unusedSimpArgs false
set_option linter.unusedVariables false
namespace Go.Proofs.YtkanmkcojlefbaaGreatDoor
open Go.RowKit
variable {c0 c1 c2 c3 c4 c5 c6 c7 c8 c9 gG gH gI gJ gK gL gM gN gO gP c20 c21 gQ gR gT gU gW gX gY gZ hJ hZ iA iB iC iD iE c37 iF iG iH iI iJ iK iL iM c46 iN iO iP iQ c51 iR c53 iS iT iU iV iW iX iY iZ jA jB jC jD jE jF jG jH jI jJ jK jL jM c75 jN jO jP jQ c80 jR jS jT jU c85 jV jW jX jY jZ kA kB kC kD kE kF kG kH kI aA aB aD aF aG aH aI aJ aK aL aM aN aO aP aQ aR aS aT aU aV aW aX aY aZ bA bB bC c127 bD bE bF bG bH bI bJ bK bL bM bN bO bP bQ bR c143 bS c145 bT bU bV bW bX bY bZ cA cB cC cD cE cF cG cH cI cJ cL cM cO cP c167 c168 cQ cS c171 cT c173 cU c175 cV cW cX cY cZ dA dB dC dD dE dF dG dH dI dJ dL dM dO dP dQ dR dS dT dU dV dW dX dY dZ eA eC eD eH eJ c210 eK c212 c213 eO eR eS eV eW eX eY eZ fA fB fC fD fE fH fI fJ fK fL c232 c233 fN fO fP fQ fR fS fT fU fV fW fX fY fZ gA gB gC gD gE gF:Value}
def B6g (h:IH) (L:List (List UInt8×List UInt8)) (f:Int):Prop:=(f=1->0<=h.ms/\h.ms<8589934592/\h.hasA=false/\h.hasC=false)/\B6h h L f
def B6f (h:IH) (L:List (List UInt8×List UInt8)) (f:Int):Prop:=(0<=h.size/\(0<h.size->h.typ≠49/\h.typ≠50))/\B6g h L f
def B6e (h:IH) (L:List (List UInt8×List UInt8)) (f:Int):Prop:=(M1 h.ms h.mn f/\(f=1->h.size<8589934592))/\B6f h L f
def B5E (h:IH) (L:List (List UInt8×List UInt8)) (f:Int):Prop:=(M0 h.mode f false/\M0 h.uid f true/\M0 h.gid f true/\M0 h.maj f false/\M0 h.mnr f false)/\B6e h L f
def B7p (h:IH) (L:List (List UInt8×List UInt8)) (f v6:Int):Prop:=(v6=1/\A0A h.link 100 f/\Y6 h.user f/\Y6 h.group f)/\B5E h L f
theorem B2f {w:World} {g k:Nat} {u v:Value} (h0:w.cell? ⟨g,k,none⟩=some u) (h1:w.cell? ⟨g,k+1,none⟩=some v): (loadVar 28 ⟨g,k,none⟩).run Tryz.prog w= .ok (.agg #[u,v]) w:=by simp[loadVar,go_sem,h0,h1]
theorem U0 {b:Bool} (h:J7 b=1):b=true:=by cases b<;>simp[J7] at h⊢
theorem A7Z (f:Int) (h:IH) (L:List (List UInt8×List UInt8)) (hb:Nat) (v v4:Int) (w w0:World) (K:CS hb h L w0 w) (hv:tri v) (P:Prop) (hP:v=1->B6g h L f->P):
  Code.wp Tryz.prog B4S (bodyPost Tryz.prog Tryz.f27 (P9 P w0)) ⟨(c0::.int .i64 f::.pointer (some ⟨hb,0,none⟩)::c3::.int .i64 v4::.int .i64 v::c6::c7::c8::c9::gG::gH::gI::gJ::gK::gL::gM::gN::gO::gP::c20::c21::gQ::gR::gT::gU::gW::gX::gY::gZ::hJ::hZ::iA::iB::iC::iD::iE::c37::iF::iG::iH::iI::iJ::iK::iL::iM::c46::iN::iO::iP::iQ::c51::iR::c53::iS::iT::iU::iV::iW::iX::iY::iZ::jA::jB::jC::jD::jE::jF::jG::jH::jI::jJ::jK::jL::jM::c75::jN::jO::jP::jQ::c80::jR::jS::jT::jU::c85::jV::jW::jX::jY::jZ::kA::kB::kC::kD::kE::kF::kG::kH::kI::aA::aB::aD::aF::aG::aH::aI::aJ::aK::aL::aM::aN::aO::aP::aQ::aR::aS::aT::aU::aV::aW::aX::aY::aZ::bA::bB::bC::c127::bD::bE::bF::bG::bH::bI::bJ::bK::bL::bM::bN::bO::bP::bQ::bR::c143::bS::c145::bT::bU::bV::bW::bX::bY::bZ::cA::cB::cC::cD::cE::cF::cG::cH::cI::cJ::cL::cM::cO::cP::c167::c168::cQ::cS::c171::cT::c173::cU::c175::cV::cW::cX::cY::cZ::dA::dB::dC::dD::dE::dF::dG::dH::dI::dJ::dL::dM::dO::dP::dQ::dR::dS::dT::dU::dV::dW::dX::dY::dZ::eA::eC::eD::eH::eJ::c210::eK::c212::c213::eO::eR::eS::eV::eW::eX::eY::eZ::fA::fB::fC::fD::fE::fH::fI::fJ::fK::fL::c232::c233::fN::fO::fP::fQ::fR::fS::fT::fU::fV::fW::fX::fY::fZ::gA::gB::gC::gD::gE::gF::[]).toArray,[]⟩ w:=by
 conv=>arg 2;whnf
 have HK:=A0 K;have HP:=A0 hP;have HV:=A0 hv;clear K hP hv;by_cases h1:f=1
 ·subst h1
  refine wp_seq_k (λK1 AM=> ?_);have AL:=A0 AM;clear AM;go_wp2_with fail
  by_cases h0:0<=h.ms
  ·cases ha:h.hasA with
   |false=>
    have HA:=A0 ha;refine J1 (S:=λw'=>SB hb h w') (n:=24) (l0:=S0 24 0) (by kernel_rfl) rfl (by kernel_rfl) HK.out.S (λAO AA hHeld=> ?_);have AC:Hid (CS hb h L w0 w.drew):=A0 (HK.out.below ((zD _ w).drew));clear HK;generalize w.drew=u0 at*;refine tkA AA.out 0 ?_;refine tkA AA.out 1 ?_;refine tkA AA.out 2 ?_;refine tkL AA.out 3 (λw' AB=>ld2 (AB.cell 9 (.int .i64 h.ms) rfl)) ?_;refine tkA AA.out 4 ?_;refine tkA AA.out 5 ?_;refine tkA AA.out 12 ?_;refine tkL AA.out 13 (λw' AB=>ld4 (AB.cell 11 (.bool h.hasA) rfl)) ?_;refine tkA (v:= .bool true) AA.out 14 ?_;refine tkA AA.out 6 ?_;refine tkA AA.out 7 ?_;refine tkL AA.out 8 (λw' AB=>ld2 (AB.cell 9 (.int .i64 h.ms) rfl)) ?_;refine tkA AA.out 9 ?_;refine tkA AA.out 10 ?_;refine rdy AA.out 11 24 32767 (λK hK=> ?_);go_simp
    go_at_call 55
    refine(K6 _ _).mono ?_;rintro e ux ⟨rfl,rfl⟩;refine hK.out _ _ AC.out.S (λhHeld=> ?_);clear hK K;try simp only[Act.put,C5,C6,C7]
    refine tkA AA.out 15 ?_;refine tkA AA.out 16 ?_;refine tkL AA.out 17 (λw' AB=>ld4 (AB.cell 12 (.bool h.hasC) rfl)) ?_;refine tkA AA.out 18 ?_;refine tkA AA.out 19 ?_;refine rdy AA.out 20 24 2097151 (λK hK=> ?_);go_simp
    go_at_call 55
    refine(K6 _ _).mono ?_;rintro e ux ⟨rfl,rfl⟩;refine hK.out _ _ AC.out.S (λhHeld=> ?_);clear hK K;try simp only[Act.put,C5,C6,C7]
    refine rdy AA.out 21 24 4194303 (λK hK=> ?_);go_simp
    refine hK.out _ _ (AC.out.below ((zD _ _).alloc (zB _) _)).S (λhHeld=> ?_);clear hK K;try simp only[Act.put,C5,C6,C7]
    refine rdy AA.out 22 24 8388607 (λK hK=> ?_);go_simp
    go_at_call 57
    refine(M8 [v,J7 (decide (h.ms<8589934592)),J7 (!h.hasC)] u0.heap.size 3 _ (O5 u0 [.int .i64 (v),.int .i64 (J7 (decide (h.ms<8589934592))),.int .i64 (J7 (!h.hasC))] 3) ?_ (by simp)).mono ?_
    ·intro x hx
     simp only[List.mem_cons,List.not_mem_nil,or_false] at hx;rcases hx with rfl|rfl|rfl
     ·exact HV.out
     ·exact L9 _
     ·exact L9 _
    rintro e u9 ⟨v2,rfl,AG,AI,AH⟩;have AE:=A0 (AC.out.alloc _ AG);have AJ:=A0 AI;have AD:=A0 AH;refine hK.out _ _ AE.out.S (λhHeld=> ?_);clear hK K AG AI AH;try simp only[Act.put,C5,C6,C7]
    refine tkA AA.out 23 ?_;refine wpAnyH_done (by rw[AA.out];kernel_rfl) ?_ _;refine AL.out _ _ ?_;exact A7a 1 h L hb v2 v4 _ w0 AE.out AJ.out P (λe k=>HP.out (AD.out e v (by simp)) ⟨λ_=>(by have q1:=U0 (AD.out e (J7 (decide (h.ms<8589934592))) (by simp));have q2:=U0 (AD.out e (J7 (!h.hasC)) (by simp));exact⟨h0,of_decide_eq_true q1,HA.out,by simpa using q2⟩),k⟩)
   |true=>
    have HA:=A0 ha;refine J1 (S:=λw'=>SB hb h w') (n:=24) (l0:=S0 24 0) (by kernel_rfl) rfl (by kernel_rfl) HK.out.S (λAO AA hHeld=> ?_);have AC:Hid (CS hb h L w0 w.drew):=A0 (HK.out.below ((zD _ w).drew));clear HK;generalize w.drew=u0 at*;refine tkA AA.out 0 ?_;refine tkA AA.out 1 ?_;refine tkA AA.out 2 ?_;refine tkL AA.out 3 (λw' AB=>ld2 (AB.cell 9 (.int .i64 h.ms) rfl)) ?_;refine tkA AA.out 4 ?_;refine tkA AA.out 5 ?_;refine tkA AA.out 12 ?_;refine tkL AA.out 13 (λw' AB=>ld4 (AB.cell 11 (.bool h.hasA) rfl)) ?_;refine tkA (v:= .bool false) AA.out 14 ?_;refine tkA AA.out 6 ?_;refine tkA AA.out 7 ?_;refine tkL AA.out 8 (λw' AB=>ld2 (AB.cell 9 (.int .i64 h.ms) rfl)) ?_;refine tkA AA.out 9 ?_;refine tkA AA.out 10 ?_;refine rdy AA.out 11 24 32767 (λK hK=> ?_);go_simp
    go_at_call 55
    refine(K6 _ _).mono ?_;rintro e ux ⟨rfl,rfl⟩;refine hK.out _ _ AC.out.S (λhHeld=> ?_);clear hK K;try simp only[Act.put,C5,C6,C7]
    refine tkA AA.out 15 ?_;refine tkU AA.out 16 ?_;refine tkU AA.out 17 ?_;refine tkU AA.out 18 ?_;refine tkA AA.out 19 ?_;refine rdy AA.out 20 24 2097151 (λK hK=> ?_);go_simp
    go_at_call 55
    refine(K6 _ _).mono ?_;rintro e ux ⟨rfl,rfl⟩;refine hK.out _ _ AC.out.S (λhHeld=> ?_);clear hK K;try simp only[Act.put,C5,C6,C7]
    refine rdy AA.out 21 24 4194303 (λK hK=> ?_);go_simp
    refine hK.out _ _ (AC.out.below ((zD _ _).alloc (zB _) _)).S (λhHeld=> ?_);clear hK K;try simp only[Act.put,C5,C6,C7]
    refine rdy AA.out 22 24 8388607 (λK hK=> ?_);go_simp
    go_at_call 57
    refine(M8 [v,J7 (decide (h.ms<8589934592)),J7 (false)] u0.heap.size 3 _ (O5 u0 [.int .i64 (v),.int .i64 (J7 (decide (h.ms<8589934592))),.int .i64 (J7 (false))] 3) ?_ (by simp)).mono ?_
    ·intro x hx
     simp only[List.mem_cons,List.not_mem_nil,or_false] at hx;rcases hx with rfl|rfl|rfl
     ·exact HV.out
     ·exact L9 _
     ·exact L9 _
    rintro e u9 ⟨v2,rfl,AG,AI,AH⟩;have AE:=A0 (AC.out.alloc _ AG);have AJ:=A0 AI;have AD:=A0 AH;refine hK.out _ _ AE.out.S (λhHeld=> ?_);clear hK K AG AI AH;try simp only[Act.put,C5,C6,C7]
    refine tkA AA.out 23 ?_;refine wpAnyH_done (by rw[AA.out];kernel_rfl) ?_ _;refine AL.out _ _ ?_;exact A7a 1 h L hb v2 v4 _ w0 AE.out AJ.out P (λe k=>HP.out (AD.out e v (by simp)) ⟨λ_=>(by have q1:=U0 (AD.out e (J7 (decide (h.ms<8589934592))) (by simp));have q2:=U0 (AD.out e (J7 (false)) (by simp));cases q2),k⟩)
  ·cases ha:h.hasA with
   |false=>
    have HA:=A0 ha;refine J1 (S:=λw'=>SB hb h w') (n:=24) (l0:=S0 24 0) (by kernel_rfl) rfl (by kernel_rfl) HK.out.S (λAO AA hHeld=> ?_);have AC:Hid (CS hb h L w0 w.drew):=A0 (HK.out.below ((zD _ w).drew));clear HK;generalize w.drew=u0 at*;refine tkA AA.out 0 ?_;refine tkA AA.out 1 ?_;refine tkA AA.out 2 ?_;refine tkL AA.out 3 (λw' AB=>ld2 (AB.cell 9 (.int .i64 h.ms) rfl)) ?_;refine tkA AA.out 4 ?_;refine tkA AA.out 5 ?_;refine tkA AA.out 12 ?_;refine tkL AA.out 13 (λw' AB=>ld4 (AB.cell 11 (.bool h.hasA) rfl)) ?_;refine tkA (v:= .bool true) AA.out 14 ?_;refine tkU AA.out 6 ?_;refine tkU AA.out 7 ?_;refine tkU AA.out 8 ?_;refine tkU AA.out 9 ?_;refine tkA AA.out 10 ?_;refine rdy AA.out 11 24 32767 (λK hK=> ?_);go_simp
    go_at_call 55
    refine(K6 _ _).mono ?_;rintro e ux ⟨rfl,rfl⟩;refine hK.out _ _ AC.out.S (λhHeld=> ?_);clear hK K;try simp only[Act.put,C5,C6,C7]
    refine tkA AA.out 15 ?_;refine tkA AA.out 16 ?_;refine tkL AA.out 17 (λw' AB=>ld4 (AB.cell 12 (.bool h.hasC) rfl)) ?_;refine tkA AA.out 18 ?_;refine tkA AA.out 19 ?_;refine rdy AA.out 20 24 2097151 (λK hK=> ?_);go_simp
    go_at_call 55
    refine(K6 _ _).mono ?_;rintro e ux ⟨rfl,rfl⟩;refine hK.out _ _ AC.out.S (λhHeld=> ?_);clear hK K;try simp only[Act.put,C5,C6,C7]
    refine rdy AA.out 21 24 4194303 (λK hK=> ?_);go_simp
    refine hK.out _ _ (AC.out.below ((zD _ _).alloc (zB _) _)).S (λhHeld=> ?_);clear hK K;try simp only[Act.put,C5,C6,C7]
    refine rdy AA.out 22 24 8388607 (λK hK=> ?_);go_simp
    go_at_call 57
    refine(M8 [v,J7 (false),J7 (!h.hasC)] u0.heap.size 3 _ (O5 u0 [.int .i64 (v),.int .i64 (J7 (false)),.int .i64 (J7 (!h.hasC))] 3) ?_ (by simp)).mono ?_
    ·intro x hx
     simp only[List.mem_cons,List.not_mem_nil,or_false] at hx;rcases hx with rfl|rfl|rfl
     ·exact HV.out
     ·exact L9 _
     ·exact L9 _
    rintro e u9 ⟨v2,rfl,AG,AI,AH⟩;have AE:=A0 (AC.out.alloc _ AG);have AJ:=A0 AI;have AD:=A0 AH;refine hK.out _ _ AE.out.S (λhHeld=> ?_);clear hK K AG AI AH;try simp only[Act.put,C5,C6,C7]
    refine tkA AA.out 23 ?_;refine wpAnyH_done (by rw[AA.out];kernel_rfl) ?_ _;refine AL.out _ _ ?_;exact A7a 1 h L hb v2 v4 _ w0 AE.out AJ.out P (λe k=>HP.out (AD.out e v (by simp)) ⟨λ_=>(by have q1:=U0 (AD.out e (J7 (false)) (by simp));have q2:=U0 (AD.out e (J7 (!h.hasC)) (by simp));cases q1),k⟩)
   |true=>
    have HA:=A0 ha;refine J1 (S:=λw'=>SB hb h w') (n:=24) (l0:=S0 24 0) (by kernel_rfl) rfl (by kernel_rfl) HK.out.S (λAO AA hHeld=> ?_);have AC:Hid (CS hb h L w0 w.drew):=A0 (HK.out.below ((zD _ w).drew));clear HK;generalize w.drew=u0 at*;refine tkA AA.out 0 ?_;refine tkA AA.out 1 ?_;refine tkA AA.out 2 ?_;refine tkL AA.out 3 (λw' AB=>ld2 (AB.cell 9 (.int .i64 h.ms) rfl)) ?_;refine tkA AA.out 4 ?_;refine tkA AA.out 5 ?_;refine tkA AA.out 12 ?_;refine tkL AA.out 13 (λw' AB=>ld4 (AB.cell 11 (.bool h.hasA) rfl)) ?_;refine tkA (v:= .bool false) AA.out 14 ?_;refine tkU AA.out 6 ?_;refine tkU AA.out 7 ?_;refine tkU AA.out 8 ?_;refine tkU AA.out 9 ?_;refine tkA AA.out 10 ?_;refine rdy AA.out 11 24 32767 (λK hK=> ?_);go_simp
    go_at_call 55
    refine(K6 _ _).mono ?_;rintro e ux ⟨rfl,rfl⟩;refine hK.out _ _ AC.out.S (λhHeld=> ?_);clear hK K;try simp only[Act.put,C5,C6,C7]
    refine tkA AA.out 15 ?_;refine tkU AA.out 16 ?_;refine tkU AA.out 17 ?_;refine tkU AA.out 18 ?_;refine tkA AA.out 19 ?_;refine rdy AA.out 20 24 2097151 (λK hK=> ?_);go_simp
    go_at_call 55
    refine(K6 _ _).mono ?_;rintro e ux ⟨rfl,rfl⟩;refine hK.out _ _ AC.out.S (λhHeld=> ?_);clear hK K;try simp only[Act.put,C5,C6,C7]
    refine rdy AA.out 21 24 4194303 (λK hK=> ?_);go_simp
    refine hK.out _ _ (AC.out.below ((zD _ _).alloc (zB _) _)).S (λhHeld=> ?_);clear hK K;try simp only[Act.put,C5,C6,C7]
    refine rdy AA.out 22 24 8388607 (λK hK=> ?_);go_simp
    go_at_call 57
    refine(M8 [v,J7 (false),J7 (false)] u0.heap.size 3 _ (O5 u0 [.int .i64 (v),.int .i64 (J7 (false)),.int .i64 (J7 (false))] 3) ?_ (by simp)).mono ?_
    ·intro x hx
     simp only[List.mem_cons,List.not_mem_nil,or_false] at hx;rcases hx with rfl|rfl|rfl
     ·exact HV.out
     ·exact L9 _
     ·exact L9 _
    rintro e u9 ⟨v2,rfl,AG,AI,AH⟩;have AE:=A0 (AC.out.alloc _ AG);have AJ:=A0 AI;have AD:=A0 AH;refine hK.out _ _ AE.out.S (λhHeld=> ?_);clear hK K AG AI AH;try simp only[Act.put,C5,C6,C7]
    refine tkA AA.out 23 ?_;refine wpAnyH_done (by rw[AA.out];kernel_rfl) ?_ _;refine AL.out _ _ ?_;exact A7a 1 h L hb v2 v4 _ w0 AE.out AJ.out P (λe k=>HP.out (AD.out e v (by simp)) ⟨λ_=>(by have q1:=U0 (AD.out e (J7 (false)) (by simp));have q2:=U0 (AD.out e (J7 (false)) (by simp));cases q1),k⟩)
 ·have h2: (f==1)=false:=by simpa using h1
  refine wp_seq_k (λK1 AM=> ?_);have AL:=A0 AM;clear AM;go_wp2_with fail
  refine AL.out _ _ ?_;exact A7a f h L hb v v4 w w0 HK.out HV.out P (λe k=>HP.out e ⟨λe1=>absurd e1 h1,k⟩)
theorem A7Y (f:Int) (h:IH) (L:List (List UInt8×List UInt8)) (hb:Nat) (v v4:Int) (w w0:World) (K:CS hb h L w0 w) (hv:tri v) (P:Prop) (hP:v=1->B6f h L f->P):
  Code.wp Tryz.prog B4R (bodyPost Tryz.prog Tryz.f27 (P9 P w0)) ⟨(c0::.int .i64 f::.pointer (some ⟨hb,0,none⟩)::c3::.int .i64 v4::.int .i64 v::c6::c7::c8::c9::gG::gH::gI::gJ::gK::gL::gM::gN::gO::gP::c20::c21::gQ::gR::gT::gU::gW::gX::gY::gZ::hJ::hZ::iA::iB::iC::iD::iE::c37::iF::iG::iH::iI::iJ::iK::iL::iM::c46::iN::iO::iP::iQ::c51::iR::c53::iS::iT::iU::iV::iW::iX::iY::iZ::jA::jB::jC::jD::jE::jF::jG::jH::jI::jJ::jK::jL::jM::c75::jN::jO::jP::jQ::c80::jR::jS::jT::jU::c85::jV::jW::jX::jY::jZ::kA::kB::kC::kD::kE::kF::kG::kH::kI::aA::aB::aD::aF::aG::aH::aI::aJ::aK::aL::aM::aN::aO::aP::aQ::aR::aS::aT::aU::aV::aW::aX::aY::aZ::bA::bB::bC::c127::bD::bE::bF::bG::bH::bI::bJ::bK::bL::bM::bN::bO::bP::bQ::bR::c143::bS::c145::bT::bU::bV::bW::bX::bY::bZ::cA::cB::cC::cD::cE::cF::cG::cH::cI::cJ::cL::cM::cO::cP::c167::c168::cQ::cS::c171::cT::c173::cU::c175::cV::cW::cX::cY::cZ::dA::dB::dC::dD::dE::dF::dG::dH::dI::dJ::dL::dM::dO::dP::dQ::dR::dS::dT::dU::dV::dW::dX::dY::dZ::eA::eC::eD::eH::eJ::c210::eK::c212::c213::eO::eR::eS::eV::eW::eX::eY::eZ::fA::fB::fC::fD::fE::fH::fI::fJ::fK::fL::c232::c233::fN::fO::fP::fQ::fR::fS::fT::fU::fV::fW::fX::fY::fZ::gA::gB::gC::gD::gE::gF::[]).toArray,[]⟩ w:=by
 conv=>arg 2;whnf
 have HK:=A0 K;have HP:=A0 hP;have HV:=A0 hv;clear K hP hv;have c3:=HK.out.S.cell 3 (.int .i64 h.size) rfl;have c0:=HK.out.S.cell 0 (.int .u8 h.typ) rfl;by_cases s0:h.size<0
 ·refine wp_seq_k (λK1 AA=> ?_)
  have AB:=A0 AA;clear AA;go_wp2_with fail
  refine(M8 [v,0] w.heap.size 2 _ (O5 w [.int .i64 v,.int .i64 0] 3) (A1Y HV.out (.inl rfl)) (by simp)).mono ?_;rintro e w2 ⟨v2,rfl,AC,AE,AD⟩;have AG:=A0 (HK.out.alloc _ AC);have AI:=A0 AE;have AH:=A0 AD;clear AC AE AD;go_wp2_with fail
  refine AB.out _ _ ?_;exact A7Z f h L hb v2 v4 w2 w0 AG.out AI.out P (λe _=>absurd (AH.out e 0 (by simp)) (by decide))
 by_cases s1:0<h.size
 ·by_cases t1:h.typ=49
  ·refine wp_seq_k (λK1 AA=> ?_)
   have AB:=A0 AA;clear AA;go_wp2_with fail
   refine(M8 [v,0] w.heap.size 2 _ (O5 w [.int .i64 v,.int .i64 0] 3) (A1Y HV.out (.inl rfl)) (by simp)).mono ?_;rintro e w2 ⟨v2,rfl,AC,AE,AD⟩;have AG:=A0 (HK.out.alloc _ AC);have AI:=A0 AE;have AH:=A0 AD;clear AC AE AD;go_wp2_with fail
   refine AB.out _ _ ?_;exact A7Z f h L hb v2 v4 w2 w0 AG.out AI.out P (λe _=>absurd (AH.out e 0 (by simp)) (by decide))
  ·by_cases t2:h.typ=50
   ·refine wp_seq_k (λK1 AA=> ?_)
    have AB:=A0 AA;clear AA;go_wp2_with fail
    refine(M8 [v,0] w.heap.size 2 _ (O5 w [.int .i64 v,.int .i64 0] 3) (A1Y HV.out (.inl rfl)) (by simp)).mono ?_;rintro e w2 ⟨v2,rfl,AC,AE,AD⟩;have AG:=A0 (HK.out.alloc _ AC);have AI:=A0 AE;have AH:=A0 AD;clear AC AE AD;go_wp2_with fail
    refine AB.out _ _ ?_;exact A7Z f h L hb v2 v4 w2 w0 AG.out AI.out P (λe _=>absurd (AH.out e 0 (by simp)) (by decide))
   ·have HF:Hid ((0<=h.size/\(0<h.size->h.typ≠49/\h.typ≠50))):=A0 ⟨by omega,λ_=>⟨t1,t2⟩⟩
    have e1: (h.typ==49)=false:=by simpa using t1
    have e2: (h.typ==50)=false:=by simpa using t2
    refine wp_seq_k (λK1 AA=> ?_);have AB:=A0 AA;clear AA;go_wp2_with fail
    refine AB.out _ _ ?_;exact A7Z f h L hb v v4 w w0 HK.out HV.out P (λe k=>HP.out e ⟨HF.out,k⟩)
 ·have HF:Hid ((0<=h.size/\(0<h.size->h.typ≠49/\h.typ≠50))):=A0 ⟨by omega,λe=>absurd e s1⟩
  refine wp_seq_k (λK1 AA=> ?_);have AB:=A0 AA;clear AA;go_wp2_with fail
  refine AB.out _ _ ?_;exact A7Z f h L hb v v4 w w0 HK.out HV.out P (λe k=>HP.out e ⟨HF.out,k⟩)
theorem B6x (f:Int) (h:IH) (L:List (List UInt8×List UInt8)) (hb:Nat) (v v4:Int) (w w0:World) (K:CS hb h L w0 w) (hv:tri v) (P:Prop) (hP:v=1->B6e h L f->P):
  Code.wp Tryz.prog B4Q (bodyPost Tryz.prog Tryz.f27 (P9 P w0)) ⟨(c0::.int .i64 f::.pointer (some ⟨hb,0,none⟩)::c3::.int .i64 v4::.int .i64 v::c6::c7::c8::c9::gG::gH::gI::gJ::gK::gL::gM::gN::gO::gP::c20::c21::gQ::gR::gT::gU::gW::gX::gY::gZ::hJ::hZ::iA::iB::iC::iD::iE::c37::iF::iG::iH::iI::iJ::iK::iL::iM::c46::iN::iO::iP::iQ::c51::iR::c53::iS::iT::iU::iV::iW::iX::iY::iZ::jA::jB::jC::jD::jE::jF::jG::jH::jI::jJ::jK::jL::jM::c75::jN::jO::jP::jQ::c80::jR::jS::jT::jU::c85::jV::jW::jX::jY::jZ::kA::kB::kC::kD::kE::kF::kG::kH::kI::aA::aB::aD::aF::aG::aH::aI::aJ::aK::aL::aM::aN::aO::aP::aQ::aR::aS::aT::aU::aV::aW::aX::aY::aZ::bA::bB::bC::c127::bD::bE::bF::bG::bH::bI::bJ::bK::bL::bM::bN::bO::bP::bQ::bR::c143::bS::c145::bT::bU::bV::bW::bX::bY::bZ::cA::cB::cC::cD::cE::cF::cG::cH::cI::cJ::cL::cM::cO::cP::c167::c168::cQ::cS::c171::cT::c173::cU::c175::cV::cW::cX::cY::cZ::dA::dB::dC::dD::dE::dF::dG::dH::dI::dJ::dL::dM::dO::dP::dQ::dR::dS::dT::dU::dV::dW::dX::dY::dZ::eA::eC::eD::eH::eJ::c210::eK::c212::c213::eO::eR::eS::eV::eW::eX::eY::eZ::fA::fB::fC::fD::fE::fH::fI::fJ::fK::fL::c232::c233::fN::fO::fP::fQ::fR::fS::fT::fU::fV::fW::fX::fY::fZ::gA::gB::gC::gD::gE::gF::[]).toArray,[]⟩ w:=by
 conv=>arg 2;whnf
 have HK:=A0 K;have HP:=A0 hP;have HV:=A0 hv;clear K hP hv;by_cases s0:h.size<0
 ·cases hd:A4u h.typ with
  |false=>
   by_cases h1:f=1
   ·subst h1
    refine wp_seq_k (λK1 AH=> ?_);have AQ:=A0 AH;clear AH;refine J1 (S:=λw'=>SB hb h w') (n:=27) (l0:=S0 27 0) (by kernel_rfl) rfl (by kernel_rfl) HK.out.S (λAU AA hHeld=> ?_);have AD:Hid (CS hb h L w0 w.drew):=A0 (HK.out.below ((zD _ w).drew));clear HK;generalize w.drew=u0 at*;refine tkA AA.out 0 ?_;refine tkA AA.out 1 ?_;refine tkL AA.out 2 (λw' AB=>ld2 (AB.cell 3 (.int .i64 h.size) rfl)) ?_;refine tkA (v:= .bool false) AA.out 3 ?_;refine tkA AA.out 4 ?_;refine tkA AA.out 20 ?_;refine tkL AA.out 21 (λw' AB=>B2f (AB.cell 9 (.int .i64 h.ms) rfl) (AB.cell 10 (.int .i64 h.mn) rfl)) ?_;refine tkA AA.out 22 ?_;refine tkA AA.out 5 ?_;refine tkL AA.out 6 (λw' AB=>ld5 (AB.cell 0 (.int .u8 h.typ) rfl)) ?_;refine rdy AA.out 7 27 7340287 (λK hK=> ?_);rw[if_pos (by rw[AA.out];kernel_rfl)];go_simp
    go_at_call 44
    refine(A2C h.typ u0).mono ?_;rw[hd];rintro e ux ⟨rfl,rfl⟩;refine hK.out _ _ AD.out.S (λhHeld=> ?_);clear hK K;try simp only[Act.put,C5,C6,C7]
    refine tkA AA.out 8 ?_;refine tkA AA.out 9 ?_;refine tkA AA.out 10 ?_;refine tkA AA.out 11 ?_;refine tkA (v:= .bool false) AA.out 12 ?_;refine tkA AA.out 13 ?_;refine tkA AA.out 14 ?_;refine tkL AA.out 15 (λw' AB=>ld2 (AB.cell 3 (.int .i64 h.size) rfl)) ?_;refine tkA AA.out 16 ?_;refine tkA AA.out 17 ?_;refine tkA AA.out 18 ?_;refine rdy AA.out 19 27 8388607 (λK hK=> ?_);go_simp
    go_at_call 55
    refine(K6 _ _).mono ?_;rintro e ux ⟨rfl,rfl⟩;refine hK.out _ _ AD.out.S (λhHeld=> ?_);clear hK K;try simp only[Act.put,C5,C6,C7]
    refine rdy AA.out 23 27 16777215 (λK hK=> ?_);go_simp
    go_at_call 60
    refine(W2 h.ms h.mn 1 _).mono ?_;rintro e u1 ⟨x1,rfl,AI,AP,AL⟩;have AC:=A0 (AD.out.below AI);have AT:=A0 AP;have AR:=A0 AL;refine hK.out _ _ AC.out.S (λhHeld=> ?_);clear hK K AI AP AL;try simp only[Act.put,C5,C6,C7]
    refine rdy AA.out 24 27 33554431 (λK hK=> ?_);go_simp
    refine hK.out _ _ (AC.out.below ((zD _ _).alloc (zB _) _)).S (λhHeld=> ?_);clear hK K;try simp only[Act.put,C5,C6,C7]
    refine rdy AA.out 25 27 67108863 (λK hK=> ?_);go_simp
    go_at_call 57
    refine(M8 [v,J7 (decide (h.size<8589934592)),x1] u1.heap.size 3 _ (O5 u1 [.int .i64 (v),.int .i64 (J7 (decide (h.size<8589934592))),.int .i64 (x1)] 3) ?_ (by simp)).mono ?_
    ·intro x hx
     simp only[List.mem_cons,List.not_mem_nil,or_false] at hx;rcases hx with rfl|rfl|rfl
     ·exact HV.out
     ·exact L9 _
     ·exact AT.out
    rintro e u9 ⟨v2,rfl,AJ,AO,AM⟩;have AG:=A0 (AC.out.alloc _ AJ);have AS:=A0 AO;have AE:=A0 AM;refine hK.out _ _ AG.out.S (λhHeld=> ?_);clear hK K AJ AO AM;try simp only[Act.put,C5,C6,C7]
    refine tkA AA.out 26 ?_;refine wpAnyH_done (by rw[AA.out];kernel_rfl) ?_ _;refine AQ.out _ _ ?_;exact A7Y 1 h L hb v2 v4 _ w0 AG.out AS.out P (λe k=>HP.out (AE.out e v (by simp)) ⟨⟨AR.out (AE.out e x1 (by simp)),λe1=>of_decide_eq_true (U0 (AE.out e (J7 (decide (h.size<8589934592))) (by simp)))⟩,k⟩)
   ·have AV: (f==1)=false:=by simpa using h1
    have AW: (f !=1)=true:=by simpa using h1
    refine wp_seq_k (λK1 AH=> ?_);have AQ:=A0 AH;clear AH;refine J1 (S:=λw'=>SB hb h w') (n:=27) (l0:=S0 27 0) (by kernel_rfl) rfl (by kernel_rfl) HK.out.S (λAU AA hHeld=> ?_);have AD:Hid (CS hb h L w0 w.drew):=A0 (HK.out.below ((zD _ w).drew));clear HK;generalize w.drew=u0 at*;refine tkA AA.out 0 ?_;refine tkA AA.out 1 ?_;refine tkL AA.out 2 (λw' AB=>ld2 (AB.cell 3 (.int .i64 h.size) rfl)) ?_;refine tkA (v:= .bool false) AA.out 3 ?_;refine tkA AA.out 4 ?_;refine tkA AA.out 20 ?_;refine tkL AA.out 21 (λw' AB=>B2f (AB.cell 9 (.int .i64 h.ms) rfl) (AB.cell 10 (.int .i64 h.mn) rfl)) ?_;refine tkA AA.out 22 ?_;refine tkA AA.out 5 ?_;refine tkL AA.out 6 (λw' AB=>ld5 (AB.cell 0 (.int .u8 h.typ) rfl)) ?_;refine rdy AA.out 7 27 7340287 (λK hK=> ?_);rw[if_pos (by rw[AA.out];kernel_rfl)];go_simp
    go_at_call 44
    refine(A2C h.typ u0).mono ?_;rw[hd];rintro e ux ⟨rfl,rfl⟩;refine hK.out _ _ AD.out.S (λhHeld=> ?_);clear hK K;try simp only[Act.put,C5,C6,C7]
    refine tkA AA.out 8 ?_;refine tkA AA.out 9 ?_;refine tkA AA.out 10 ?_;refine tkA AA.out 11 ?_;refine tkA (v:= .bool true) AA.out 12 ?_;refine tkA AA.out 13 ?_;refine tkU AA.out 14 ?_;refine tkU AA.out 15 ?_;refine tkU AA.out 16 ?_;refine tkA AA.out 17 ?_;refine tkA AA.out 18 ?_;refine rdy AA.out 19 27 8388607 (λK hK=> ?_);go_simp
    go_at_call 55
    refine(K6 _ _).mono ?_;rintro e ux ⟨rfl,rfl⟩;refine hK.out _ _ AD.out.S (λhHeld=> ?_);clear hK K;try simp only[Act.put,C5,C6,C7]
    refine rdy AA.out 23 27 16777215 (λK hK=> ?_);go_simp
    go_at_call 60
    refine(W2 h.ms h.mn f _).mono ?_;rintro e u1 ⟨x1,rfl,AI,AP,AL⟩;have AC:=A0 (AD.out.below AI);have AT:=A0 AP;have AR:=A0 AL;refine hK.out _ _ AC.out.S (λhHeld=> ?_);clear hK K AI AP AL;try simp only[Act.put,C5,C6,C7]
    refine rdy AA.out 24 27 33554431 (λK hK=> ?_);go_simp
    refine hK.out _ _ (AC.out.below ((zD _ _).alloc (zB _) _)).S (λhHeld=> ?_);clear hK K;try simp only[Act.put,C5,C6,C7]
    refine rdy AA.out 25 27 67108863 (λK hK=> ?_);go_simp
    go_at_call 57
    refine(M8 [v,J7 true,x1] u1.heap.size 3 _ (O5 u1 [.int .i64 (v),.int .i64 (J7 true),.int .i64 (x1)] 3) ?_ (by simp)).mono ?_
    ·intro x hx
     simp only[List.mem_cons,List.not_mem_nil,or_false] at hx;rcases hx with rfl|rfl|rfl
     ·exact HV.out
     ·exact L9 _
     ·exact AT.out
    rintro e u9 ⟨v2,rfl,AJ,AO,AM⟩;have AG:=A0 (AC.out.alloc _ AJ);have AS:=A0 AO;have AE:=A0 AM;refine hK.out _ _ AG.out.S (λhHeld=> ?_);clear hK K AJ AO AM;try simp only[Act.put,C5,C6,C7]
    refine tkA AA.out 26 ?_;refine wpAnyH_done (by rw[AA.out];kernel_rfl) ?_ _;refine AQ.out _ _ ?_;exact A7Y f h L hb v2 v4 _ w0 AG.out AS.out P (λe k=>HP.out (AE.out e v (by simp)) ⟨⟨AR.out (AE.out e x1 (by simp)),λe1=>absurd e1 h1⟩,k⟩)
  |true=>
   refine wp_seq_k (λK1 AH=> ?_);have AQ:=A0 AH;clear AH;refine J1 (S:=λw'=>SB hb h w') (n:=27) (l0:=S0 27 0) (by kernel_rfl) rfl (by kernel_rfl) HK.out.S (λAU AA hHeld=> ?_);have AD:Hid (CS hb h L w0 w.drew):=A0 (HK.out.below ((zD _ w).drew));clear HK;generalize w.drew=u0 at*;refine tkA AA.out 0 ?_;refine tkA AA.out 1 ?_;refine tkL AA.out 2 (λw' AB=>ld2 (AB.cell 3 (.int .i64 h.size) rfl)) ?_;refine tkA (v:= .bool false) AA.out 3 ?_;refine tkA AA.out 4 ?_;refine tkA AA.out 20 ?_;refine tkL AA.out 21 (λw' AB=>B2f (AB.cell 9 (.int .i64 h.ms) rfl) (AB.cell 10 (.int .i64 h.mn) rfl)) ?_;refine tkA AA.out 22 ?_;refine tkA AA.out 5 ?_;refine tkL AA.out 6 (λw' AB=>ld5 (AB.cell 0 (.int .u8 h.typ) rfl)) ?_;refine rdy AA.out 7 27 7340287 (λK hK=> ?_);rw[if_pos (by rw[AA.out];kernel_rfl)];go_simp
   go_at_call 44
   refine(A2C h.typ u0).mono ?_;rw[hd];rintro e ux ⟨rfl,rfl⟩;refine hK.out _ _ AD.out.S (λhHeld=> ?_);clear hK K;try simp only[Act.put,C5,C6,C7]
   refine tkA AA.out 8 ?_;refine tkA AA.out 9 ?_;refine tkA AA.out 10 ?_;refine tkU AA.out 11 ?_;refine tkU AA.out 12 ?_;refine tkU AA.out 13 ?_;refine tkU AA.out 14 ?_;refine tkU AA.out 15 ?_;refine tkU AA.out 16 ?_;refine tkU AA.out 17 ?_;refine tkA AA.out 18 ?_;refine rdy AA.out 19 27 8388607 (λK hK=> ?_);go_simp
   go_at_call 55
   refine(K6 _ _).mono ?_;rintro e ux ⟨rfl,rfl⟩;refine hK.out _ _ AD.out.S (λhHeld=> ?_);clear hK K;try simp only[Act.put,C5,C6,C7]
   refine rdy AA.out 23 27 16777215 (λK hK=> ?_);go_simp
   go_at_call 60
   refine(W2 h.ms h.mn f _).mono ?_;rintro e u1 ⟨x1,rfl,AI,AP,AL⟩;have AC:=A0 (AD.out.below AI);have AT:=A0 AP;have AR:=A0 AL;refine hK.out _ _ AC.out.S (λhHeld=> ?_);clear hK K AI AP AL;try simp only[Act.put,C5,C6,C7]
   refine rdy AA.out 24 27 33554431 (λK hK=> ?_);go_simp
   refine hK.out _ _ (AC.out.below ((zD _ _).alloc (zB _) _)).S (λhHeld=> ?_);clear hK K;try simp only[Act.put,C5,C6,C7]
   refine rdy AA.out 25 27 67108863 (λK hK=> ?_);go_simp
   go_at_call 57
   refine(M8 [v,J7 false,x1] u1.heap.size 3 _ (O5 u1 [.int .i64 (v),.int .i64 (J7 false),.int .i64 (x1)] 3) ?_ (by simp)).mono ?_
   ·intro x hx
    simp only[List.mem_cons,List.not_mem_nil,or_false] at hx;rcases hx with rfl|rfl|rfl
    ·exact HV.out
    ·exact L9 _
    ·exact AT.out
   rintro e u9 ⟨v2,rfl,AJ,AO,AM⟩;have AG:=A0 (AC.out.alloc _ AJ);have AS:=A0 AO;have AE:=A0 AM;refine hK.out _ _ AG.out.S (λhHeld=> ?_);clear hK K AJ AO AM;try simp only[Act.put,C5,C6,C7]
   refine tkA AA.out 26 ?_;refine wpAnyH_done (by rw[AA.out];kernel_rfl) ?_ _;refine AQ.out _ _ ?_;exact A7Y f h L hb v2 v4 _ w0 AG.out AS.out P (λe k=>HP.out (AE.out e v (by simp)) ⟨⟨AR.out (AE.out e x1 (by simp)),λe1=>absurd k.1.1 (by omega)⟩,k⟩)
 ·have s1:0<=h.size:=by omega
  by_cases h1:f=1
  ·subst h1
   refine wp_seq_k (λK1 AH=> ?_);have AQ:=A0 AH;clear AH;refine J1 (S:=λw'=>SB hb h w') (n:=27) (l0:=S0 27 0) (by kernel_rfl) rfl (by kernel_rfl) HK.out.S (λAU AA hHeld=> ?_);have AD:Hid (CS hb h L w0 w.drew):=A0 (HK.out.below ((zD _ w).drew));clear HK;generalize w.drew=u0 at*;refine tkA AA.out 0 ?_;refine tkA AA.out 1 ?_;refine tkL AA.out 2 (λw' AB=>ld2 (AB.cell 3 (.int .i64 h.size) rfl)) ?_;refine tkA (v:= .bool true) AA.out 3 ?_;refine tkA AA.out 4 ?_;refine tkA AA.out 20 ?_;refine tkL AA.out 21 (λw' AB=>B2f (AB.cell 9 (.int .i64 h.ms) rfl) (AB.cell 10 (.int .i64 h.mn) rfl)) ?_;refine tkA AA.out 22 ?_;refine tkU AA.out 5 ?_;refine tkU AA.out 6 ?_;refine tkU AA.out 7 ?_;refine tkU AA.out 8 ?_;refine tkA AA.out 9 ?_;refine tkA AA.out 10 ?_;refine tkA AA.out 11 ?_;refine tkA (v:= .bool false) AA.out 12 ?_;refine tkA AA.out 13 ?_;refine tkA AA.out 14 ?_;refine tkL AA.out 15 (λw' AB=>ld2 (AB.cell 3 (.int .i64 h.size) rfl)) ?_;refine tkA AA.out 16 ?_;refine tkA AA.out 17 ?_;refine tkA AA.out 18 ?_;refine rdy AA.out 19 27 8388607 (λK hK=> ?_);go_simp
   go_at_call 55
   refine(K6 _ _).mono ?_;rintro e ux ⟨rfl,rfl⟩;refine hK.out _ _ AD.out.S (λhHeld=> ?_);clear hK K;try simp only[Act.put,C5,C6,C7]
   refine rdy AA.out 23 27 16777215 (λK hK=> ?_);go_simp
   go_at_call 60
   refine(W2 h.ms h.mn 1 _).mono ?_;rintro e u1 ⟨x1,rfl,AI,AP,AL⟩;have AC:=A0 (AD.out.below AI);have AT:=A0 AP;have AR:=A0 AL;refine hK.out _ _ AC.out.S (λhHeld=> ?_);clear hK K AI AP AL;try simp only[Act.put,C5,C6,C7]
   refine rdy AA.out 24 27 33554431 (λK hK=> ?_);go_simp
   refine hK.out _ _ (AC.out.below ((zD _ _).alloc (zB _) _)).S (λhHeld=> ?_);clear hK K;try simp only[Act.put,C5,C6,C7]
   refine rdy AA.out 25 27 67108863 (λK hK=> ?_);go_simp
   go_at_call 57
   refine(M8 [v,J7 (decide (h.size<8589934592)),x1] u1.heap.size 3 _ (O5 u1 [.int .i64 (v),.int .i64 (J7 (decide (h.size<8589934592))),.int .i64 (x1)] 3) ?_ (by simp)).mono ?_
   ·intro x hx
    simp only[List.mem_cons,List.not_mem_nil,or_false] at hx;rcases hx with rfl|rfl|rfl
    ·exact HV.out
    ·exact L9 _
    ·exact AT.out
   rintro e u9 ⟨v2,rfl,AJ,AO,AM⟩;have AG:=A0 (AC.out.alloc _ AJ);have AS:=A0 AO;have AE:=A0 AM;refine hK.out _ _ AG.out.S (λhHeld=> ?_);clear hK K AJ AO AM;try simp only[Act.put,C5,C6,C7]
   refine tkA AA.out 26 ?_;refine wpAnyH_done (by rw[AA.out];kernel_rfl) ?_ _;refine AQ.out _ _ ?_;exact A7Y 1 h L hb v2 v4 _ w0 AG.out AS.out P (λe k=>HP.out (AE.out e v (by simp)) ⟨⟨AR.out (AE.out e x1 (by simp)),λe1=>of_decide_eq_true (U0 (AE.out e (J7 (decide (h.size<8589934592))) (by simp)))⟩,k⟩)
  ·have AV: (f==1)=false:=by simpa using h1
   have AW: (f !=1)=true:=by simpa using h1
   refine wp_seq_k (λK1 AH=> ?_);have AQ:=A0 AH;clear AH;refine J1 (S:=λw'=>SB hb h w') (n:=27) (l0:=S0 27 0) (by kernel_rfl) rfl (by kernel_rfl) HK.out.S (λAU AA hHeld=> ?_);have AD:Hid (CS hb h L w0 w.drew):=A0 (HK.out.below ((zD _ w).drew));clear HK;generalize w.drew=u0 at*;refine tkA AA.out 0 ?_;refine tkA AA.out 1 ?_;refine tkL AA.out 2 (λw' AB=>ld2 (AB.cell 3 (.int .i64 h.size) rfl)) ?_;refine tkA (v:= .bool true) AA.out 3 ?_;refine tkA AA.out 4 ?_;refine tkA AA.out 20 ?_;refine tkL AA.out 21 (λw' AB=>B2f (AB.cell 9 (.int .i64 h.ms) rfl) (AB.cell 10 (.int .i64 h.mn) rfl)) ?_;refine tkA AA.out 22 ?_;refine tkU AA.out 5 ?_;refine tkU AA.out 6 ?_;refine tkU AA.out 7 ?_;refine tkU AA.out 8 ?_;refine tkA AA.out 9 ?_;refine tkA AA.out 10 ?_;refine tkA AA.out 11 ?_;refine tkA (v:= .bool true) AA.out 12 ?_;refine tkA AA.out 13 ?_;refine tkU AA.out 14 ?_;refine tkU AA.out 15 ?_;refine tkU AA.out 16 ?_;refine tkA AA.out 17 ?_;refine tkA AA.out 18 ?_;refine rdy AA.out 19 27 8388607 (λK hK=> ?_);go_simp
   go_at_call 55
   refine(K6 _ _).mono ?_;rintro e ux ⟨rfl,rfl⟩;refine hK.out _ _ AD.out.S (λhHeld=> ?_);clear hK K;try simp only[Act.put,C5,C6,C7]
   refine rdy AA.out 23 27 16777215 (λK hK=> ?_);go_simp
   go_at_call 60
   refine(W2 h.ms h.mn f _).mono ?_;rintro e u1 ⟨x1,rfl,AI,AP,AL⟩;have AC:=A0 (AD.out.below AI);have AT:=A0 AP;have AR:=A0 AL;refine hK.out _ _ AC.out.S (λhHeld=> ?_);clear hK K AI AP AL;try simp only[Act.put,C5,C6,C7]
   refine rdy AA.out 24 27 33554431 (λK hK=> ?_);go_simp
   refine hK.out _ _ (AC.out.below ((zD _ _).alloc (zB _) _)).S (λhHeld=> ?_);clear hK K;try simp only[Act.put,C5,C6,C7]
   refine rdy AA.out 25 27 67108863 (λK hK=> ?_);go_simp
   go_at_call 57
   refine(M8 [v,J7 true,x1] u1.heap.size 3 _ (O5 u1 [.int .i64 (v),.int .i64 (J7 true),.int .i64 (x1)] 3) ?_ (by simp)).mono ?_
   ·intro x hx
    simp only[List.mem_cons,List.not_mem_nil,or_false] at hx;rcases hx with rfl|rfl|rfl
    ·exact HV.out
    ·exact L9 _
    ·exact AT.out
   rintro e u9 ⟨v2,rfl,AJ,AO,AM⟩;have AG:=A0 (AC.out.alloc _ AJ);have AS:=A0 AO;have AE:=A0 AM;refine hK.out _ _ AG.out.S (λhHeld=> ?_);clear hK K AJ AO AM;try simp only[Act.put,C5,C6,C7]
   refine tkA AA.out 26 ?_;refine wpAnyH_done (by rw[AA.out];kernel_rfl) ?_ _;refine AQ.out _ _ ?_;exact A7Y f h L hb v2 v4 _ w0 AG.out AS.out P (λe k=>HP.out (AE.out e v (by simp)) ⟨⟨AR.out (AE.out e x1 (by simp)),λe1=>absurd e1 h1⟩,k⟩)
theorem B6w (f:Int) (h:IH) (L:List (List UInt8×List UInt8)) (hb:Nat) (v v4:Int) (w w0:World) (K:CS hb h L w0 w) (hv:tri v) (P:Prop) (hP:v=1->B5E h L f->P):
  Code.wp Tryz.prog B4P (bodyPost Tryz.prog Tryz.f27 (P9 P w0)) ⟨(c0::.int .i64 f::.pointer (some ⟨hb,0,none⟩)::c3::.int .i64 v4::.int .i64 v::c6::c7::c8::c9::gG::gH::gI::gJ::gK::gL::gM::gN::gO::gP::c20::c21::gQ::gR::gT::gU::gW::gX::gY::gZ::hJ::hZ::iA::iB::iC::iD::iE::c37::iF::iG::iH::iI::iJ::iK::iL::iM::c46::iN::iO::iP::iQ::c51::iR::c53::iS::iT::iU::iV::iW::iX::iY::iZ::jA::jB::jC::jD::jE::jF::jG::jH::jI::jJ::jK::jL::jM::c75::jN::jO::jP::jQ::c80::jR::jS::jT::jU::c85::jV::jW::jX::jY::jZ::kA::kB::kC::kD::kE::kF::kG::kH::kI::aA::aB::aD::aF::aG::aH::aI::aJ::aK::aL::aM::aN::aO::aP::aQ::aR::aS::aT::aU::aV::aW::aX::aY::aZ::bA::bB::bC::c127::bD::bE::bF::bG::bH::bI::bJ::bK::bL::bM::bN::bO::bP::bQ::bR::c143::bS::c145::bT::bU::bV::bW::bX::bY::bZ::cA::cB::cC::cD::cE::cF::cG::cH::cI::cJ::cL::cM::cO::cP::c167::c168::cQ::cS::c171::cT::c173::cU::c175::cV::cW::cX::cY::cZ::dA::dB::dC::dD::dE::dF::dG::dH::dI::dJ::dL::dM::dO::dP::dQ::dR::dS::dT::dU::dV::dW::dX::dY::dZ::eA::eC::eD::eH::eJ::c210::eK::c212::c213::eO::eR::eS::eV::eW::eX::eY::eZ::fA::fB::fC::fD::fE::fH::fI::fJ::fK::fL::c232::c233::fN::fO::fP::fQ::fR::fS::fT::fU::fV::fW::fX::fY::fZ::gA::gB::gC::gD::gE::gF::[]).toArray,[]⟩ w:=by
 conv=>arg 2;whnf
 have HK:=A0 K;have HP:=A0 hP;have HV:=A0 hv;clear K hP hv;refine wp_seq_k (λK1 AL=> ?_);have Af:=A0 AL;clear AL;refine J1 (S:=λw'=>SB hb h w') (n:=24) (l0:=S0 24 0) (by kernel_rfl) rfl (by kernel_rfl) HK.out.S (λAs AA hHeld=> ?_);have Al:Hid (CS hb h L w0 w.drew):=A0 (HK.out.below ((zD _ w).drew));clear HK;generalize w.drew=u0 at*;refine tkA AA.out 0 ?_;refine tkA AA.out 1 ?_;refine tkL AA.out 2 (λw' AB=>ld2 (AB.cell 4 (.int .i64 h.mode) rfl)) ?_;refine tkA AA.out 3 ?_;refine tkA AA.out 5 ?_;refine tkL AA.out 6 (λw' AB=>ld2 (AB.cell 5 (.int .i64 h.uid) rfl)) ?_;refine tkA AA.out 7 ?_;refine tkA AA.out 9 ?_;refine tkL AA.out 10 (λw' AB=>ld2 (AB.cell 6 (.int .i64 h.gid) rfl)) ?_;refine tkA AA.out 11 ?_;refine tkA AA.out 13 ?_;refine tkL AA.out 14 (λw' AB=>ld2 (AB.cell 17 (.int .i64 h.maj) rfl)) ?_;refine tkA AA.out 15 ?_;refine tkA AA.out 17 ?_;refine tkL AA.out 18 (λw' AB=>ld2 (AB.cell 18 (.int .i64 h.mnr) rfl)) ?_;refine tkA AA.out 19 ?_;refine rdy AA.out 4 24 978687 (λK hK=> ?_);go_simp
 go_at_call 59
 refine(A1B h.mode f false _).mono ?_;rintro e u1 ⟨x1,rfl,AM,Aa,AT⟩;have AG:=A0 (Al.out.below AM);have An:=A0 Aa;have Ag:=A0 AT;refine hK.out _ _ AG.out.S (λhHeld=> ?_);clear hK K AM Aa AT;try simp only[Act.put,C5,C6,C7]
 refine rdy AA.out 8 24 978943 (λK hK=> ?_);go_simp
 go_at_call 59
 refine(A1B h.uid f true _).mono ?_;rintro e u2 ⟨x2,rfl,AO,Ab,AU⟩;have AH:=A0 (AG.out.below AO);have Ao:=A0 Ab;have Ah:=A0 AU;refine hK.out _ _ AH.out.S (λhHeld=> ?_);clear hK K AO Ab AU;try simp only[Act.put,C5,C6,C7]
 refine rdy AA.out 12 24 983039 (λK hK=> ?_);go_simp
 go_at_call 59
 refine(A1B h.gid f true _).mono ?_;rintro e u3 ⟨x3,rfl,AP,Ac,AV⟩;have AI:=A0 (AH.out.below AP);have Ap:=A0 Ac;have Ai:=A0 AV;refine hK.out _ _ AI.out.S (λhHeld=> ?_);clear hK K AP Ac AV;try simp only[Act.put,C5,C6,C7]
 refine rdy AA.out 16 24 1048575 (λK hK=> ?_);go_simp
 go_at_call 59
 refine(A1B h.maj f false _).mono ?_;rintro e u4 ⟨x4,rfl,AQ,Ad,AW⟩;have AJ:=A0 (AI.out.below AQ);have Aq:=A0 Ad;have Aj:=A0 AW;refine hK.out _ _ AJ.out.S (λhHeld=> ?_);clear hK K AQ Ad AW;try simp only[Act.put,C5,C6,C7]
 refine rdy AA.out 20 24 2097151 (λK hK=> ?_);go_simp
 go_at_call 59
 refine(A1B h.mnr f false _).mono ?_;rintro e u5 ⟨x5,rfl,AR,Ae,AX⟩;have AD:=A0 (AJ.out.below AR);have Ar:=A0 Ae;have Ak:=A0 AX;refine hK.out _ _ AD.out.S (λhHeld=> ?_);clear hK K AR Ae AX;try simp only[Act.put,C5,C6,C7]
 refine rdy AA.out 21 24 4194303 (λK hK=> ?_);go_simp
 refine hK.out _ _ (AD.out.below ((zD _ _).alloc (zB _) _)).S (λhHeld=> ?_);clear hK K;try simp only[Act.put,C5,C6,C7]
 refine rdy AA.out 22 24 8388607 (λK hK=> ?_);go_simp
 go_at_call 57
 refine(M8 [v,x1,x2,x3,x4,x5] u5.heap.size 6 _ (O5 u5 [.int .i64 (v),.int .i64 (x1),.int .i64 (x2),.int .i64 (x3),.int .i64 (x4),.int .i64 (x5)] 3) ?_ (by simp)).mono ?_
 ·intro x hx
  simp only[List.mem_cons,List.not_mem_nil,or_false] at hx;rcases hx with rfl|rfl|rfl|rfl|rfl|rfl
  ·exact HV.out
  ·exact An.out
  ·exact Ao.out
  ·exact Ap.out
  ·exact Aq.out
  ·exact Ar.out
 rintro e u9 ⟨v2,rfl,AS,AZ,AY⟩;have AE:=A0 (AD.out.alloc _ AS);have Am:=A0 AZ;have AC:=A0 AY;refine hK.out _ _ AE.out.S (λhHeld=> ?_);clear hK K AS AZ AY;try simp only[Act.put,C5,C6,C7]
 refine tkA AA.out 23 ?_;refine wpAnyH_done (by rw[AA.out];kernel_rfl) ?_ _;refine Af.out _ _ ?_;exact B6x f h L hb v2 v4 _ w0 AE.out Am.out P (λe k=>HP.out (AC.out e v (by simp)) ⟨⟨Ag.out (AC.out e x1 (by simp)),Ah.out (AC.out e x2 (by simp)),Ai.out (AC.out e x3 (by simp)),Aj.out (AC.out e x4 (by simp)),Ak.out (AC.out e x5 (by simp))⟩,k⟩)
theorem A9z (f:Int) (h:IH) (L:List (List UInt8×List UInt8)) (hb:Nat) (v v4:Int) (w w0:World) (K:CS hb h L w0 w) (hv:tri v) (P:Prop) (v6:Int) (Aj:tri v6) (Ag:h.link.length<4611686018427387904) (Ah:h.user.length<4611686018427387904) (Ai:h.group.length<4611686018427387904) (hP:v=1->B7p h L f v6->P):
  Code.wp Tryz.prog B4O (bodyPost Tryz.prog Tryz.f27 (P9 P w0)) ⟨(c0::.int .i64 f::.pointer (some ⟨hb,0,none⟩)::c3::.int .i64 v4::.int .i64 v::.int .i64 v6::c7::c8::c9::gG::gH::gI::gJ::gK::gL::gM::gN::gO::gP::c20::c21::gQ::gR::gT::gU::gW::gX::gY::gZ::hJ::hZ::iA::iB::iC::iD::iE::c37::iF::iG::iH::iI::iJ::iK::iL::iM::c46::iN::iO::iP::iQ::c51::iR::c53::iS::iT::iU::iV::iW::iX::iY::iZ::jA::jB::jC::jD::jE::jF::jG::jH::jI::jJ::jK::jL::jM::c75::jN::jO::jP::jQ::c80::jR::jS::jT::jU::c85::jV::jW::jX::jY::jZ::kA::kB::kC::kD::kE::kF::kG::kH::kI::aA::aB::aD::aF::aG::aH::aI::aJ::aK::aL::aM::aN::aO::aP::aQ::aR::aS::aT::aU::aV::aW::aX::aY::aZ::bA::bB::bC::c127::bD::bE::bF::bG::bH::bI::bJ::bK::bL::bM::bN::bO::bP::bQ::bR::c143::bS::c145::bT::bU::bV::bW::bX::bY::bZ::cA::cB::cC::cD::cE::cF::cG::cH::cI::cJ::cL::cM::cO::cP::c167::c168::cQ::cS::c171::cT::c173::cU::c175::cV::cW::cX::cY::cZ::dA::dB::dC::dD::dE::dF::dG::dH::dI::dJ::dL::dM::dO::dP::dQ::dR::dS::dT::dU::dV::dW::dX::dY::dZ::eA::eC::eD::eH::eJ::c210::eK::c212::c213::eO::eR::eS::eV::eW::eX::eY::eZ::fA::fB::fC::fD::fE::fH::fI::fJ::fK::fL::c232::c233::fN::fO::fP::fQ::fR::fS::fT::fU::fV::fW::fX::fY::fZ::gA::gB::gC::gD::gE::gF::[]).toArray,[]⟩ w:=by
 conv=>arg 2;whnf
 have HK:=A0 K;have HP:=A0 hP;have HV:=A0 hv;clear K hP hv;refine wp_seq_k (λK1 AI=> ?_);have AX:=A0 AI;clear AI;refine J1 (S:=λw'=>SB hb h w') (n:=17) (l0:=S0 17 0) (by kernel_rfl) rfl (by kernel_rfl) HK.out.S (λAk AA hHeld=> ?_);have Ab:Hid (CS hb h L w0 w.drew):=A0 (HK.out.below ((zD _ w).drew));clear HK;generalize w.drew=u0 at*;refine tkA AA.out 0 ?_;refine tkA AA.out 1 ?_;refine tkA AA.out 2 ?_;refine tkL AA.out 3 (λw' AC=>ld9 (AC.cell 2 (str h.link) rfl)) ?_;refine tkA AA.out 4 ?_;refine tkA AA.out 6 ?_;refine tkL AA.out 7 (λw' AC=>ld9 (AC.cell 7 (str h.user) rfl)) ?_;refine tkA AA.out 8 ?_;refine tkA AA.out 10 ?_;refine tkL AA.out 11 (λw' AC=>ld9 (AC.cell 8 (str h.group) rfl)) ?_;refine tkA AA.out 12 ?_;refine rdy AA.out 5 17 7679 (λK hK=> ?_);go_simp
 go_at_call 54
 refine(A5O h.link 100 f _ Ag).mono ?_;rintro e u1 ⟨x1,rfl,AJ,AU,AP⟩;have AG:=A0 (Ab.out.below AJ);have Ad:=A0 AU;have AY:=A0 AP;refine hK.out _ _ AG.out.S (λhHeld=> ?_);clear hK K AJ AU AP;try simp only[Act.put,C5,C6,C7]
 refine rdy AA.out 9 17 8191 (λK hK=> ?_);go_simp
 go_at_call 58
 refine(A6S h.user f _ Ah).mono ?_;rintro e u2 ⟨x2,rfl,AL,AV,AQ⟩;have AH:=A0 (AG.out.below AL);have Ae:=A0 AV;have AZ:=A0 AQ;refine hK.out _ _ AH.out.S (λhHeld=> ?_);clear hK K AL AV AQ;try simp only[Act.put,C5,C6,C7]
 refine rdy AA.out 13 17 16383 (λK hK=> ?_);go_simp
 go_at_call 58
 refine(A6S h.group f _ Ai).mono ?_;rintro e u3 ⟨x3,rfl,AM,AW,AR⟩;have AD:=A0 (AH.out.below AM);have Af:=A0 AW;have Aa:=A0 AR;refine hK.out _ _ AD.out.S (λhHeld=> ?_);clear hK K AM AW AR;try simp only[Act.put,C5,C6,C7]
 refine rdy AA.out 14 17 32767 (λK hK=> ?_);go_simp
 refine hK.out _ _ (AD.out.below ((zD _ _).alloc (zB _) _)).S (λhHeld=> ?_);clear hK K;try simp only[Act.put,C5,C6,C7]
 refine rdy AA.out 15 17 65535 (λK hK=> ?_);go_simp
 go_at_call 57
 refine(M8 [v,v6,x1,x2,x3] u3.heap.size 5 _ (O5 u3 [.int .i64 (v),.int .i64 (v6),.int .i64 (x1),.int .i64 (x2),.int .i64 (x3)] 3) ?_ (by simp)).mono ?_
 ·intro x hx
  simp only[List.mem_cons,List.not_mem_nil,or_false] at hx;rcases hx with rfl|rfl|rfl|rfl|rfl
  ·exact HV.out
  ·exact Aj
  ·exact Ad.out
  ·exact Ae.out
  ·exact Af.out
 rintro e u9 ⟨v2,rfl,AO,AT,AS⟩;have AE:=A0 (AD.out.alloc _ AO);have Ac:=A0 AT;have AB:=A0 AS;refine hK.out _ _ AE.out.S (λhHeld=> ?_);clear hK K AO AT AS;try simp only[Act.put,C5,C6,C7]
 refine tkA AA.out 16 ?_;refine wpAnyH_done (by rw[AA.out];kernel_rfl) ?_ _;refine AX.out _ _ ?_;exact B6w f h L hb v2 v4 _ w0 AE.out Ac.out P (λe k=>HP.out (AB.out e v (by simp)) ⟨⟨AB.out e v6 (by simp),AY.out (AB.out e x1 (by simp)),AZ.out (AB.out e x2 (by simp)),Aa.out (AB.out e x3 (by simp))⟩,k⟩)
end Go.Proofs.YtkanmkcojlefbaaGreatDoor
