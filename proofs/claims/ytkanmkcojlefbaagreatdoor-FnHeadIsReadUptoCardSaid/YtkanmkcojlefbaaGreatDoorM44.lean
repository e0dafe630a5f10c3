/-
  Part of the proof; holds the texts Cn2.
-/
import Derived.Test.YtkanmkcojlefbaaGreatDoorM42
import Derived.Test.YtkanmkcojlefbaaGreatDoorM43
set_option maxHeartbeats 16000000
set_option maxRecDepth 100000
set_option linter.unusedSimpArgs false
set_option linter.unusedVariables false
namespace Go.Proofs.YtkanmkcojlefbaaGreatDoor
open Go.RowKit
variable {c0 c1 c2 c3 c4 c5 c6 c7 c8 c9 gG gH gI gJ gK gL gM gN gO gP c20 c21 gQ gR gT gU gW gX gY gZ hJ hZ iA iB iC iD iE c37 iF iG iH iI iJ iK iL iM c46 iN iO iP iQ c51 iR c53 iS iT iU iV iW iX iY iZ jA jB jC jD jE jF jG jH jI jJ jK jL jM c75 jN jO jP jQ c80 jR jS jT jU c85 jV jW jX jY jZ kA kB kC kD kE kF kG kH kI aA aB aC aD aF aG aH aI aJ aK aL aM aN aO aP aQ aR aS aT aU aV aW aX aY aZ bB bC c127 bD bE bF bG bH bI bJ bK bL bM bN bO bP bQ bR c143 bS c145 bT bU bV bW bX bY bZ cA cB cC cD cE cF cG cH cI cJ cL cM cO cP c167 c168 cQ cS c171 cT c173 cU c175 cV cW cX cY cZ dA dB dC dD dE dF dG dH dI dJ dL dM dO dP dQ dR dS dT dU dV dW dX dY dZ eA eC eD eH eJ c210 eK c212 c213 eO eR eS eV eW eX eY eZ fA fB fC fD fE fH fI fJ fK fL c232 c233 fN fO fP fQ fR fS fT fU fV fW fX fY fZ gA gB gC gD gE gF:Value}
def B6g (h:IH) (L:List (List UInt8×List UInt8)) (f:Int):Prop:=(f=1->0<=h.ms/\h.ms<8589934592/\h.hasA=false/\h.hasC=false)/\B6h h L f
def B6f (h:IH) (L:List (List UInt8×List UInt8)) (f:Int):Prop:=(0<=h.size/\(0<h.size->h.typ≠49/\h.typ≠50))/\B6g h L f
def B6e (h:IH) (L:List (List UInt8×List UInt8)) (f:Int):Prop:=(M1 h.ms h.mn f/\(f=1->h.size<8589934592))/\B6f h L f
def B5E (h:IH) (L:List (List UInt8×List UInt8)) (f:Int):Prop:=(M0 h.mode f false/\M0 h.uid f true/\M0 h.gid f true/\M0 h.maj f false/\M0 h.mnr f false)/\B6e h L f
def B7p (h:IH) (L:List (List UInt8×List UInt8)) (f v6:Int):Prop:=(v6=1/\A0A h.link 100 f/\Y6 h.user f/\Y6 h.group f)/\B5E h L f
theorem B2f {w:World} {g k:Nat} {u v:Value} (h0:w.cell? ⟨g,k,none⟩=some u) (h1:w.cell? ⟨g,k+1,none⟩=some v): (loadVar 28 ⟨g,k,none⟩).run Tryz.prog w= .ok (.agg #[u,v]) w:=by simp[loadVar,go_sem,h0,h1]
theorem U0 {b:Bool} (h:J7 b=1):b=true:=by cases b<;>simp[J7] at h⊢
theorem A7Z (f:Int) (h:IH) (L:List (List UInt8×List UInt8)) (hb:Nat) (v v4:Int) (w w0:World) (K:CS hb h L w0 w) (hv:tri v) (P:Prop) (hP:v=1->B6g h L f->P):
  Code.wp Tryz.prog B4S (bodyPost Tryz.prog Tryz.f27 (P9 P w0)) ⟨(c0::.int .i64 f::.pointer (some ⟨hb,0,none⟩)::c3::.int .i64 v4::.int .i64 v::c6::c7::c8::c9::gG::gH::gI::gJ::gK::gL::gM::gN::gO::gP::c20::c21::gQ::gR::gT::gU::gW::gX::gY::gZ::hJ::hZ::iA::iB::iC::iD::iE::c37::iF::iG::iH::iI::iJ::iK::iL::iM::c46::iN::iO::iP::iQ::c51::iR::c53::iS::iT::iU::iV::iW::iX::iY::iZ::jA::jB::jC::jD::jE::jF::jG::jH::jI::jJ::jK::jL::jM::c75::jN::jO::jP::jQ::c80::jR::jS::jT::jU::c85::jV::jW::jX::jY::jZ::kA::kB::kC::kD::kE::kF::kG::kH::kI::aA::aB::aC::aD::aF::aG::aH::aI::aJ::aK::aL::aM::aN::aO::aP::aQ::aR::aS::aT::aU::aV::aW::aX::aY::aZ::bB::bC::c127::bD::bE::bF::bG::bH::bI::bJ::bK::bL::bM::bN::bO::bP::bQ::bR::c143::bS::c145::bT::bU::bV::bW::bX::bY::bZ::cA::cB::cC::cD::cE::cF::cG::cH::cI::cJ::cL::cM::cO::cP::c167::c168::cQ::cS::c171::cT::c173::cU::c175::cV::cW::cX::cY::cZ::dA::dB::dC::dD::dE::dF::dG::dH::dI::dJ::dL::dM::dO::dP::dQ::dR::dS::dT::dU::dV::dW::dX::dY::dZ::eA::eC::eD::eH::eJ::c210::eK::c212::c213::eO::eR::eS::eV::eW::eX::eY::eZ::fA::fB::fC::fD::fE::fH::fI::fJ::fK::fL::c232::c233::fN::fO::fP::fQ::fR::fS::fT::fU::fV::fW::fX::fY::fZ::gA::gB::gC::gD::gE::gF::[]).toArray,[]⟩ w:=by
 conv=>arg 2;whnf
 have HK:=A0 K;have HP:=A0 hP;have HV:=A0 hv;clear K hP hv;by_cases h1:f=1
 ·subst h1
  refine wp_seq_k (λK1 AO=> ?_);have AM:=A0 AO;clear AO;go_wp2_with fail
  by_cases h0:0<=h.ms
  ·cases ha:h.hasA with
   |false=>
    have HA:=A0 ha;refine J1 (S:=λw'=>SB hb h w') (n:=24) (l0:=S0 24 0) (by kernel_rfl) rfl (by kernel_rfl) HK.out.S (λAP AA hHeld=> ?_);have AD:Hid (CS hb h L w0 w.drew):=A0 (HK.out.below ((Below.refl _ w).drew));clear HK;generalize w.drew=u0 at*;refine tk AA.out 0 (some 187) 24 1 ?va0 ?aa0 ?ya0 ?za0 ?ra0
    case ya0=>intro w AB;go_simp;try with_reducible rfl
    case za0=>simp only[Act.put,C5,C6,C7];exact rfl
    refine tk AA.out 1 (some 188) 24 3 ?va1 ?aa1 ?ya1 ?za1 ?ra1
    case ya1=>intro w AB;go_simp;try with_reducible rfl
    case za1=>simp only[Act.put,C5,C6,C7];exact rfl
    refine tk AA.out 2 (some 189) 24 7 ?va2 ?aa2 ?ya2 ?za2 ?ra2
    case ya2=>intro w AB;go_simp;try with_reducible rfl
    case za2=>simp only[Act.put,C5,C6,C7];exact rfl
    refine tkl AA.out 3 (some 190) 24 15 ⟨hb,9,none⟩ (.int .i64 h.ms) ?aa3 (λw' AC=>ld2 (AC.cell 9 (.int .i64 h.ms) rfl)) ?za3 ?ra3
    case za3=>simp only[Act.put,C5,C6,C7];exact rfl
    refine tk AA.out 4 (some 191) 24 31 ?va4 ?aa4 ?ya4 ?za4 ?ra4
    case ya4=>intro w AB;go_simp;try with_reducible rfl
    case za4=>simp only[Act.put,C5,C6,C7];exact rfl
    refine tk AA.out 5 (some 192) 24 63 ?va5 ?aa5 ?ya5 ?za5 ?ra5
    case ya5=>intro w AB;go_simp;try with_reducible rfl
    case za5=>simp only[Act.put,C5,C6,C7];exact rfl
    refine tk AA.out 12 (some 199) 24 4159 ?va12 ?aa12 ?ya12 ?za12 ?ra12
    case ya12=>intro w AB;go_simp;try with_reducible rfl
    case za12=>simp only[Act.put,C5,C6,C7];exact rfl
    refine tkl AA.out 13 (some 200) 24 12351 ⟨hb,11,none⟩ (.bool h.hasA) ?aa13 (λw' AC=>ld4 (AC.cell 11 (.bool h.hasA) rfl)) ?za13 ?ra13
    case za13=>simp only[Act.put,C5,C6,C7];exact rfl
    refine tk AA.out 14 (some 201) 24 28735 (.bool true) ?aa14 ?ya14 ?za14 ?ra14
    case ya14=>intro w AB;go_simp;try with_reducible rfl
    case za14=>simp only[Act.put,C5,C6,C7];exact rfl
    refine tkg AA.out 6 (some 193) 24 28799 ?va6 ?aa6 ?ya6 ?za6 ?ra6
    case ya6=>intro w AB;go_simp;try with_reducible rfl
    case za6=>simp only[Act.put,C5,C6,C7];exact rfl
    refine tkg AA.out 7 (some 194) 24 28927 ?va7 ?aa7 ?ya7 ?za7 ?ra7
    case ya7=>intro w AB;go_simp;try with_reducible rfl
    case za7=>simp only[Act.put,C5,C6,C7];exact rfl
    refine tkl AA.out 8 (some 195) 24 29183 ⟨hb,9,none⟩ (.int .i64 h.ms) ?aa8 (λw' AC=>ld2 (AC.cell 9 (.int .i64 h.ms) rfl)) ?za8 ?ra8
    case za8=>simp only[Act.put,C5,C6,C7];exact rfl
    refine tkg AA.out 9 (some 196) 24 29695 ?va9 ?aa9 ?ya9 ?za9 ?ra9
    case ya9=>intro w AB;go_simp;try with_reducible rfl
    case za9=>simp only[Act.put,C5,C6,C7];exact rfl
    refine tk AA.out 10 (some 197) 24 30719 ?va10 ?aa10 ?ya10 ?za10 ?ra10
    case ya10=>intro w AB;go_simp;try with_reducible rfl
    case za10=>simp only[Act.put,C5,C6,C7];exact rfl
    refine rdy AA.out 11 24 32767 (λK hK=> ?_);go_simp
    go_at_call 55
    refine(K6 _ _).mono ?_;rintro e ux ⟨rfl,rfl⟩;refine hK.out _ _ AD.out.S (λhHeld=> ?_);clear hK K;try simp only[Act.put,C5,C6,C7]
    refine tk AA.out 15 (some 202) 24 65535 ?va15 ?aa15 ?ya15 ?za15 ?ra15
    case ya15=>intro w AB;go_simp;try with_reducible rfl
    case za15=>simp only[Act.put,C5,C6,C7];exact rfl
    refine tkg AA.out 16 (some 203) 24 131071 ?va16 ?aa16 ?ya16 ?za16 ?ra16
    case ya16=>intro w AB;go_simp;try with_reducible rfl
    case za16=>simp only[Act.put,C5,C6,C7];exact rfl
    refine tkl AA.out 17 (some 204) 24 262143 ⟨hb,12,none⟩ (.bool h.hasC) ?aa17 (λw' AC=>ld4 (AC.cell 12 (.bool h.hasC) rfl)) ?za17 ?ra17
    case za17=>simp only[Act.put,C5,C6,C7];exact rfl
    refine tkg AA.out 18 (some 205) 24 524287 ?va18 ?aa18 ?ya18 ?za18 ?ra18
    case ya18=>intro w AB;go_simp;try with_reducible rfl
    case za18=>simp only[Act.put,C5,C6,C7];exact rfl
    refine tk AA.out 19 (some 206) 24 1048575 ?va19 ?aa19 ?ya19 ?za19 ?ra19
    case ya19=>intro w AB;go_simp;try with_reducible rfl
    case za19=>simp only[Act.put,C5,C6,C7];exact rfl
    refine rdy AA.out 20 24 2097151 (λK hK=> ?_);go_simp
    go_at_call 55
    refine(K6 _ _).mono ?_;rintro e ux ⟨rfl,rfl⟩;refine hK.out _ _ AD.out.S (λhHeld=> ?_);clear hK K;try simp only[Act.put,C5,C6,C7]
    refine rdy AA.out 21 24 4194303 (λK hK=> ?_);go_simp
    refine hK.out _ _ (AD.out.below ((Below.refl _ _).alloc (Nat.le_refl _) _)).S (λhHeld=> ?_);clear hK K;try simp only[Act.put,C5,C6,C7]
    refine rdy AA.out 22 24 8388607 (λK hK=> ?_);go_simp
    go_at_call 57
    refine(M8 [v,J7 (decide (h.ms<8589934592)),J7 (!h.hasC)] u0.heap.size 3 _ (O5 u0 [.int .i64 (v),.int .i64 (J7 (decide (h.ms<8589934592))),.int .i64 (J7 (!h.hasC))] 3) ?_ (by simp)).mono ?_
    ·intro x hx
     simp only[List.mem_cons,List.not_mem_nil,or_false] at hx;rcases hx with rfl|rfl|rfl
     ·exact HV.out
     ·exact L9 _
     ·exact L9 _
    rintro e u9 ⟨v2,rfl,AH,AJ,AI⟩;have AG:=A0 (AD.out.alloc _ AH);have AL:=A0 AJ;have AE:=A0 AI;refine hK.out _ _ AG.out.S (λhHeld=> ?_);clear hK K AH AJ AI;try simp only[Act.put,C5,C6,C7]
    refine tk AA.out 23 (some 5) 24 16777215 ?va23 ?aa23 ?ya23 ?za23 ?ra23
    case ya23=>intro w AB;go_simp;try with_reducible rfl
    case za23=>simp only[Act.put,C5,C6,C7];exact rfl
    refine wpAnyH_done (by rw[AA.out];kernel_rfl) ?_ _;refine AM.out _ _ ?_;exact A7a 1 h L hb v2 v4 _ w0 AG.out AL.out P (λe k=>HP.out (AE.out e v (by simp)) ⟨λ_=>(by have q1:=U0 (AE.out e (J7 (decide (h.ms<8589934592))) (by simp));have q2:=U0 (AE.out e (J7 (!h.hasC)) (by simp));exact⟨h0,of_decide_eq_true q1,HA.out,by simpa using q2⟩),k⟩)
   |true=>
    have HA:=A0 ha;refine J1 (S:=λw'=>SB hb h w') (n:=24) (l0:=S0 24 0) (by kernel_rfl) rfl (by kernel_rfl) HK.out.S (λAP AA hHeld=> ?_);have AD:Hid (CS hb h L w0 w.drew):=A0 (HK.out.below ((Below.refl _ w).drew));clear HK;generalize w.drew=u0 at*;refine tk AA.out 0 (some 187) 24 1 ?vb0 ?ab0 ?yb0 ?zb0 ?rb0
    case yb0=>intro w AB;go_simp;try with_reducible rfl
    case zb0=>simp only[Act.put,C5,C6,C7];exact rfl
    refine tk AA.out 1 (some 188) 24 3 ?vb1 ?ab1 ?yb1 ?zb1 ?rb1
    case yb1=>intro w AB;go_simp;try with_reducible rfl
    case zb1=>simp only[Act.put,C5,C6,C7];exact rfl
    refine tk AA.out 2 (some 189) 24 7 ?vb2 ?ab2 ?yb2 ?zb2 ?rb2
    case yb2=>intro w AB;go_simp;try with_reducible rfl
    case zb2=>simp only[Act.put,C5,C6,C7];exact rfl
    refine tkl AA.out 3 (some 190) 24 15 ⟨hb,9,none⟩ (.int .i64 h.ms) ?ab3 (λw' AC=>ld2 (AC.cell 9 (.int .i64 h.ms) rfl)) ?zb3 ?rb3
    case zb3=>simp only[Act.put,C5,C6,C7];exact rfl
    refine tk AA.out 4 (some 191) 24 31 ?vb4 ?ab4 ?yb4 ?zb4 ?rb4
    case yb4=>intro w AB;go_simp;try with_reducible rfl
    case zb4=>simp only[Act.put,C5,C6,C7];exact rfl
    refine tk AA.out 5 (some 192) 24 63 ?vb5 ?ab5 ?yb5 ?zb5 ?rb5
    case yb5=>intro w AB;go_simp;try with_reducible rfl
    case zb5=>simp only[Act.put,C5,C6,C7];exact rfl
    refine tk AA.out 12 (some 199) 24 4159 ?vb12 ?ab12 ?yb12 ?zb12 ?rb12
    case yb12=>intro w AB;go_simp;try with_reducible rfl
    case zb12=>simp only[Act.put,C5,C6,C7];exact rfl
    refine tkl AA.out 13 (some 200) 24 12351 ⟨hb,11,none⟩ (.bool h.hasA) ?ab13 (λw' AC=>ld4 (AC.cell 11 (.bool h.hasA) rfl)) ?zb13 ?rb13
    case zb13=>simp only[Act.put,C5,C6,C7];exact rfl
    refine tk AA.out 14 (some 201) 24 28735 (.bool false) ?ab14 ?yb14 ?zb14 ?rb14
    case yb14=>intro w AB;go_simp;try with_reducible rfl
    case zb14=>simp only[Act.put,C5,C6,C7];exact rfl
    refine tkg AA.out 6 (some 193) 24 28799 ?vb6 ?ab6 ?yb6 ?zb6 ?rb6
    case yb6=>intro w AB;go_simp;try with_reducible rfl
    case zb6=>simp only[Act.put,C5,C6,C7];exact rfl
    refine tkg AA.out 7 (some 194) 24 28927 ?vb7 ?ab7 ?yb7 ?zb7 ?rb7
    case yb7=>intro w AB;go_simp;try with_reducible rfl
    case zb7=>simp only[Act.put,C5,C6,C7];exact rfl
    refine tkl AA.out 8 (some 195) 24 29183 ⟨hb,9,none⟩ (.int .i64 h.ms) ?ab8 (λw' AC=>ld2 (AC.cell 9 (.int .i64 h.ms) rfl)) ?zb8 ?rb8
    case zb8=>simp only[Act.put,C5,C6,C7];exact rfl
    refine tkg AA.out 9 (some 196) 24 29695 ?vb9 ?ab9 ?yb9 ?zb9 ?rb9
    case yb9=>intro w AB;go_simp;try with_reducible rfl
    case zb9=>simp only[Act.put,C5,C6,C7];exact rfl
    refine tk AA.out 10 (some 197) 24 30719 ?vb10 ?ab10 ?yb10 ?zb10 ?rb10
    case yb10=>intro w AB;go_simp;try with_reducible rfl
    case zb10=>simp only[Act.put,C5,C6,C7];exact rfl
    refine rdy AA.out 11 24 32767 (λK hK=> ?_);go_simp
    go_at_call 55
    refine(K6 _ _).mono ?_;rintro e ux ⟨rfl,rfl⟩;refine hK.out _ _ AD.out.S (λhHeld=> ?_);clear hK K;try simp only[Act.put,C5,C6,C7]
    refine tk AA.out 15 (some 202) 24 65535 ?vb15 ?ab15 ?yb15 ?zb15 ?rb15
    case yb15=>intro w AB;go_simp;try with_reducible rfl
    case zb15=>simp only[Act.put,C5,C6,C7];exact rfl
    refine tku AA.out 16 (some 203) 24 131071 ?ab16 ?zb16 ?rb16
    case zb16=>simp only[Act.put,C5,C6,C7];exact rfl
    refine tku AA.out 17 (some 204) 24 262143 ?ab17 ?zb17 ?rb17
    case zb17=>simp only[Act.put,C5,C6,C7];exact rfl
    refine tku AA.out 18 (some 205) 24 524287 ?ab18 ?zb18 ?rb18
    case zb18=>simp only[Act.put,C5,C6,C7];exact rfl
    refine tk AA.out 19 (some 206) 24 1048575 ?vb19 ?ab19 ?yb19 ?zb19 ?rb19
    case yb19=>intro w AB;go_simp;try with_reducible rfl
    case zb19=>simp only[Act.put,C5,C6,C7];exact rfl
    refine rdy AA.out 20 24 2097151 (λK hK=> ?_);go_simp
    go_at_call 55
    refine(K6 _ _).mono ?_;rintro e ux ⟨rfl,rfl⟩;refine hK.out _ _ AD.out.S (λhHeld=> ?_);clear hK K;try simp only[Act.put,C5,C6,C7]
    refine rdy AA.out 21 24 4194303 (λK hK=> ?_);go_simp
    refine hK.out _ _ (AD.out.below ((Below.refl _ _).alloc (Nat.le_refl _) _)).S (λhHeld=> ?_);clear hK K;try simp only[Act.put,C5,C6,C7]
    refine rdy AA.out 22 24 8388607 (λK hK=> ?_);go_simp
    go_at_call 57
    refine(M8 [v,J7 (decide (h.ms<8589934592)),J7 (false)] u0.heap.size 3 _ (O5 u0 [.int .i64 (v),.int .i64 (J7 (decide (h.ms<8589934592))),.int .i64 (J7 (false))] 3) ?_ (by simp)).mono ?_
    ·intro x hx
     simp only[List.mem_cons,List.not_mem_nil,or_false] at hx;rcases hx with rfl|rfl|rfl
     ·exact HV.out
     ·exact L9 _
     ·exact L9 _
    rintro e u9 ⟨v2,rfl,AH,AJ,AI⟩;have AG:=A0 (AD.out.alloc _ AH);have AL:=A0 AJ;have AE:=A0 AI;refine hK.out _ _ AG.out.S (λhHeld=> ?_);clear hK K AH AJ AI;try simp only[Act.put,C5,C6,C7]
    refine tk AA.out 23 (some 5) 24 16777215 ?vb23 ?ab23 ?yb23 ?zb23 ?rb23
    case yb23=>intro w AB;go_simp;try with_reducible rfl
    case zb23=>simp only[Act.put,C5,C6,C7];exact rfl
    refine wpAnyH_done (by rw[AA.out];kernel_rfl) ?_ _;refine AM.out _ _ ?_;exact A7a 1 h L hb v2 v4 _ w0 AG.out AL.out P (λe k=>HP.out (AE.out e v (by simp)) ⟨λ_=>(by have q1:=U0 (AE.out e (J7 (decide (h.ms<8589934592))) (by simp));have q2:=U0 (AE.out e (J7 (false)) (by simp));cases q2),k⟩)
  ·cases ha:h.hasA with
   |false=>
    have HA:=A0 ha;refine J1 (S:=λw'=>SB hb h w') (n:=24) (l0:=S0 24 0) (by kernel_rfl) rfl (by kernel_rfl) HK.out.S (λAP AA hHeld=> ?_);have AD:Hid (CS hb h L w0 w.drew):=A0 (HK.out.below ((Below.refl _ w).drew));clear HK;generalize w.drew=u0 at*;refine tk AA.out 0 (some 187) 24 1 ?vc0 ?ac0 ?yc0 ?zc0 ?rc0
    case yc0=>intro w AB;go_simp;try with_reducible rfl
    case zc0=>simp only[Act.put,C5,C6,C7];exact rfl
    refine tk AA.out 1 (some 188) 24 3 ?vc1 ?ac1 ?yc1 ?zc1 ?rc1
    case yc1=>intro w AB;go_simp;try with_reducible rfl
    case zc1=>simp only[Act.put,C5,C6,C7];exact rfl
    refine tk AA.out 2 (some 189) 24 7 ?vc2 ?ac2 ?yc2 ?zc2 ?rc2
    case yc2=>intro w AB;go_simp;try with_reducible rfl
    case zc2=>simp only[Act.put,C5,C6,C7];exact rfl
    refine tkl AA.out 3 (some 190) 24 15 ⟨hb,9,none⟩ (.int .i64 h.ms) ?ac3 (λw' AC=>ld2 (AC.cell 9 (.int .i64 h.ms) rfl)) ?zc3 ?rc3
    case zc3=>simp only[Act.put,C5,C6,C7];exact rfl
    refine tk AA.out 4 (some 191) 24 31 ?vc4 ?ac4 ?yc4 ?zc4 ?rc4
    case yc4=>intro w AB;go_simp;try with_reducible rfl
    case zc4=>simp only[Act.put,C5,C6,C7];exact rfl
    refine tk AA.out 5 (some 192) 24 63 ?vc5 ?ac5 ?yc5 ?zc5 ?rc5
    case yc5=>intro w AB;go_simp;try with_reducible rfl
    case zc5=>simp only[Act.put,C5,C6,C7];exact rfl
    refine tk AA.out 12 (some 199) 24 4159 ?vc12 ?ac12 ?yc12 ?zc12 ?rc12
    case yc12=>intro w AB;go_simp;try with_reducible rfl
    case zc12=>simp only[Act.put,C5,C6,C7];exact rfl
    refine tkl AA.out 13 (some 200) 24 12351 ⟨hb,11,none⟩ (.bool h.hasA) ?ac13 (λw' AC=>ld4 (AC.cell 11 (.bool h.hasA) rfl)) ?zc13 ?rc13
    case zc13=>simp only[Act.put,C5,C6,C7];exact rfl
    refine tk AA.out 14 (some 201) 24 28735 (.bool true) ?ac14 ?yc14 ?zc14 ?rc14
    case yc14=>intro w AB;go_simp;try with_reducible rfl
    case zc14=>simp only[Act.put,C5,C6,C7];exact rfl
    refine tku AA.out 6 (some 193) 24 28799 ?ac6 ?zc6 ?rc6
    case zc6=>simp only[Act.put,C5,C6,C7];exact rfl
    refine tku AA.out 7 (some 194) 24 28927 ?ac7 ?zc7 ?rc7
    case zc7=>simp only[Act.put,C5,C6,C7];exact rfl
    refine tku AA.out 8 (some 195) 24 29183 ?ac8 ?zc8 ?rc8
    case zc8=>simp only[Act.put,C5,C6,C7];exact rfl
    refine tku AA.out 9 (some 196) 24 29695 ?ac9 ?zc9 ?rc9
    case zc9=>simp only[Act.put,C5,C6,C7];exact rfl
    refine tk AA.out 10 (some 197) 24 30719 ?vc10 ?ac10 ?yc10 ?zc10 ?rc10
    case yc10=>intro w AB;go_simp;try with_reducible rfl
    case zc10=>simp only[Act.put,C5,C6,C7];exact rfl
    refine rdy AA.out 11 24 32767 (λK hK=> ?_);go_simp
    go_at_call 55
    refine(K6 _ _).mono ?_;rintro e ux ⟨rfl,rfl⟩;refine hK.out _ _ AD.out.S (λhHeld=> ?_);clear hK K;try simp only[Act.put,C5,C6,C7]
    refine tk AA.out 15 (some 202) 24 65535 ?vc15 ?ac15 ?yc15 ?zc15 ?rc15
    case yc15=>intro w AB;go_simp;try with_reducible rfl
    case zc15=>simp only[Act.put,C5,C6,C7];exact rfl
    refine tkg AA.out 16 (some 203) 24 131071 ?vc16 ?ac16 ?yc16 ?zc16 ?rc16
    case yc16=>intro w AB;go_simp;try with_reducible rfl
    case zc16=>simp only[Act.put,C5,C6,C7];exact rfl
    refine tkl AA.out 17 (some 204) 24 262143 ⟨hb,12,none⟩ (.bool h.hasC) ?ac17 (λw' AC=>ld4 (AC.cell 12 (.bool h.hasC) rfl)) ?zc17 ?rc17
    case zc17=>simp only[Act.put,C5,C6,C7];exact rfl
    refine tkg AA.out 18 (some 205) 24 524287 ?vc18 ?ac18 ?yc18 ?zc18 ?rc18
    case yc18=>intro w AB;go_simp;try with_reducible rfl
    case zc18=>simp only[Act.put,C5,C6,C7];exact rfl
    refine tk AA.out 19 (some 206) 24 1048575 ?vc19 ?ac19 ?yc19 ?zc19 ?rc19
    case yc19=>intro w AB;go_simp;try with_reducible rfl
    case zc19=>simp only[Act.put,C5,C6,C7];exact rfl
    refine rdy AA.out 20 24 2097151 (λK hK=> ?_);go_simp
    go_at_call 55
    refine(K6 _ _).mono ?_;rintro e ux ⟨rfl,rfl⟩;refine hK.out _ _ AD.out.S (λhHeld=> ?_);clear hK K;try simp only[Act.put,C5,C6,C7]
    refine rdy AA.out 21 24 4194303 (λK hK=> ?_);go_simp
    refine hK.out _ _ (AD.out.below ((Below.refl _ _).alloc (Nat.le_refl _) _)).S (λhHeld=> ?_);clear hK K;try simp only[Act.put,C5,C6,C7]
    refine rdy AA.out 22 24 8388607 (λK hK=> ?_);go_simp
    go_at_call 57
    refine(M8 [v,J7 (false),J7 (!h.hasC)] u0.heap.size 3 _ (O5 u0 [.int .i64 (v),.int .i64 (J7 (false)),.int .i64 (J7 (!h.hasC))] 3) ?_ (by simp)).mono ?_
    ·intro x hx
     simp only[List.mem_cons,List.not_mem_nil,or_false] at hx;rcases hx with rfl|rfl|rfl
     ·exact HV.out
     ·exact L9 _
     ·exact L9 _
    rintro e u9 ⟨v2,rfl,AH,AJ,AI⟩;have AG:=A0 (AD.out.alloc _ AH);have AL:=A0 AJ;have AE:=A0 AI;refine hK.out _ _ AG.out.S (λhHeld=> ?_);clear hK K AH AJ AI;try simp only[Act.put,C5,C6,C7]
    refine tk AA.out 23 (some 5) 24 16777215 ?vc23 ?ac23 ?yc23 ?zc23 ?rc23
    case yc23=>intro w AB;go_simp;try with_reducible rfl
    case zc23=>simp only[Act.put,C5,C6,C7];exact rfl
    refine wpAnyH_done (by rw[AA.out];kernel_rfl) ?_ _;refine AM.out _ _ ?_;exact A7a 1 h L hb v2 v4 _ w0 AG.out AL.out P (λe k=>HP.out (AE.out e v (by simp)) ⟨λ_=>(by have q1:=U0 (AE.out e (J7 (false)) (by simp));have q2:=U0 (AE.out e (J7 (!h.hasC)) (by simp));cases q1),k⟩)
   |true=>
    have HA:=A0 ha;refine J1 (S:=λw'=>SB hb h w') (n:=24) (l0:=S0 24 0) (by kernel_rfl) rfl (by kernel_rfl) HK.out.S (λAP AA hHeld=> ?_);have AD:Hid (CS hb h L w0 w.drew):=A0 (HK.out.below ((Below.refl _ w).drew));clear HK;generalize w.drew=u0 at*;refine tk AA.out 0 (some 187) 24 1 ?vd0 ?ad0 ?yd0 ?zd0 ?rd0
    case yd0=>intro w AB;go_simp;try with_reducible rfl
    case zd0=>simp only[Act.put,C5,C6,C7];exact rfl
    refine tk AA.out 1 (some 188) 24 3 ?vd1 ?ad1 ?yd1 ?zd1 ?rd1
    case yd1=>intro w AB;go_simp;try with_reducible rfl
    case zd1=>simp only[Act.put,C5,C6,C7];exact rfl
    refine tk AA.out 2 (some 189) 24 7 ?vd2 ?ad2 ?yd2 ?zd2 ?rd2
    case yd2=>intro w AB;go_simp;try with_reducible rfl
    case zd2=>simp only[Act.put,C5,C6,C7];exact rfl
    refine tkl AA.out 3 (some 190) 24 15 ⟨hb,9,none⟩ (.int .i64 h.ms) ?ad3 (λw' AC=>ld2 (AC.cell 9 (.int .i64 h.ms) rfl)) ?zd3 ?rd3
    case zd3=>simp only[Act.put,C5,C6,C7];exact rfl
    refine tk AA.out 4 (some 191) 24 31 ?vd4 ?ad4 ?yd4 ?zd4 ?rd4
    case yd4=>intro w AB;go_simp;try with_reducible rfl
    case zd4=>simp only[Act.put,C5,C6,C7];exact rfl
    refine tk AA.out 5 (some 192) 24 63 ?vd5 ?ad5 ?yd5 ?zd5 ?rd5
    case yd5=>intro w AB;go_simp;try with_reducible rfl
    case zd5=>simp only[Act.put,C5,C6,C7];exact rfl
    refine tk AA.out 12 (some 199) 24 4159 ?vd12 ?ad12 ?yd12 ?zd12 ?rd12
    case yd12=>intro w AB;go_simp;try with_reducible rfl
    case zd12=>simp only[Act.put,C5,C6,C7];exact rfl
    refine tkl AA.out 13 (some 200) 24 12351 ⟨hb,11,none⟩ (.bool h.hasA) ?ad13 (λw' AC=>ld4 (AC.cell 11 (.bool h.hasA) rfl)) ?zd13 ?rd13
    case zd13=>simp only[Act.put,C5,C6,C7];exact rfl
    refine tk AA.out 14 (some 201) 24 28735 (.bool false) ?ad14 ?yd14 ?zd14 ?rd14
    case yd14=>intro w AB;go_simp;try with_reducible rfl
    case zd14=>simp only[Act.put,C5,C6,C7];exact rfl
    refine tku AA.out 6 (some 193) 24 28799 ?ad6 ?zd6 ?rd6
    case zd6=>simp only[Act.put,C5,C6,C7];exact rfl
    refine tku AA.out 7 (some 194) 24 28927 ?ad7 ?zd7 ?rd7
    case zd7=>simp only[Act.put,C5,C6,C7];exact rfl
    refine tku AA.out 8 (some 195) 24 29183 ?ad8 ?zd8 ?rd8
    case zd8=>simp only[Act.put,C5,C6,C7];exact rfl
    refine tku AA.out 9 (some 196) 24 29695 ?ad9 ?zd9 ?rd9
    case zd9=>simp only[Act.put,C5,C6,C7];exact rfl
    refine tk AA.out 10 (some 197) 24 30719 ?vd10 ?ad10 ?yd10 ?zd10 ?rd10
    case yd10=>intro w AB;go_simp;try with_reducible rfl
    case zd10=>simp only[Act.put,C5,C6,C7];exact rfl
    refine rdy AA.out 11 24 32767 (λK hK=> ?_);go_simp
    go_at_call 55
    refine(K6 _ _).mono ?_;rintro e ux ⟨rfl,rfl⟩;refine hK.out _ _ AD.out.S (λhHeld=> ?_);clear hK K;try simp only[Act.put,C5,C6,C7]
    refine tk AA.out 15 (some 202) 24 65535 ?vd15 ?ad15 ?yd15 ?zd15 ?rd15
    case yd15=>intro w AB;go_simp;try with_reducible rfl
    case zd15=>simp only[Act.put,C5,C6,C7];exact rfl
    refine tku AA.out 16 (some 203) 24 131071 ?ad16 ?zd16 ?rd16
    case zd16=>simp only[Act.put,C5,C6,C7];exact rfl
    refine tku AA.out 17 (some 204) 24 262143 ?ad17 ?zd17 ?rd17
    case zd17=>simp only[Act.put,C5,C6,C7];exact rfl
    refine tku AA.out 18 (some 205) 24 524287 ?ad18 ?zd18 ?rd18
    case zd18=>simp only[Act.put,C5,C6,C7];exact rfl
    refine tk AA.out 19 (some 206) 24 1048575 ?vd19 ?ad19 ?yd19 ?zd19 ?rd19
    case yd19=>intro w AB;go_simp;try with_reducible rfl
    case zd19=>simp only[Act.put,C5,C6,C7];exact rfl
    refine rdy AA.out 20 24 2097151 (λK hK=> ?_);go_simp
    go_at_call 55
    refine(K6 _ _).mono ?_;rintro e ux ⟨rfl,rfl⟩;refine hK.out _ _ AD.out.S (λhHeld=> ?_);clear hK K;try simp only[Act.put,C5,C6,C7]
    refine rdy AA.out 21 24 4194303 (λK hK=> ?_);go_simp
    refine hK.out _ _ (AD.out.below ((Below.refl _ _).alloc (Nat.le_refl _) _)).S (λhHeld=> ?_);clear hK K;try simp only[Act.put,C5,C6,C7]
    refine rdy AA.out 22 24 8388607 (λK hK=> ?_);go_simp
    go_at_call 57
    refine(M8 [v,J7 (false),J7 (false)] u0.heap.size 3 _ (O5 u0 [.int .i64 (v),.int .i64 (J7 (false)),.int .i64 (J7 (false))] 3) ?_ (by simp)).mono ?_
    ·intro x hx
     simp only[List.mem_cons,List.not_mem_nil,or_false] at hx;rcases hx with rfl|rfl|rfl
     ·exact HV.out
     ·exact L9 _
     ·exact L9 _
    rintro e u9 ⟨v2,rfl,AH,AJ,AI⟩;have AG:=A0 (AD.out.alloc _ AH);have AL:=A0 AJ;have AE:=A0 AI;refine hK.out _ _ AG.out.S (λhHeld=> ?_);clear hK K AH AJ AI;try simp only[Act.put,C5,C6,C7]
    refine tk AA.out 23 (some 5) 24 16777215 ?vd23 ?ad23 ?yd23 ?zd23 ?rd23
    case yd23=>intro w AB;go_simp;try with_reducible rfl
    case zd23=>simp only[Act.put,C5,C6,C7];exact rfl
    refine wpAnyH_done (by rw[AA.out];kernel_rfl) ?_ _;refine AM.out _ _ ?_;exact A7a 1 h L hb v2 v4 _ w0 AG.out AL.out P (λe k=>HP.out (AE.out e v (by simp)) ⟨λ_=>(by have q1:=U0 (AE.out e (J7 (false)) (by simp));have q2:=U0 (AE.out e (J7 (false)) (by simp));cases q1),k⟩)
 ·have h2: (f==1)=false:=by simpa using h1
  refine wp_seq_k (λK1 AO=> ?_);have AM:=A0 AO;clear AO;go_wp2_with fail
  refine AM.out _ _ ?_;exact A7a f h L hb v v4 w w0 HK.out HV.out P (λe k=>HP.out e ⟨λe1=>absurd e1 h1,k⟩)
theorem A7Y (f:Int) (h:IH) (L:List (List UInt8×List UInt8)) (hb:Nat) (v v4:Int) (w w0:World) (K:CS hb h L w0 w) (hv:tri v) (P:Prop) (hP:v=1->B6f h L f->P):
  Code.wp Tryz.prog B4R (bodyPost Tryz.prog Tryz.f27 (P9 P w0)) ⟨(c0::.int .i64 f::.pointer (some ⟨hb,0,none⟩)::c3::.int .i64 v4::.int .i64 v::c6::c7::c8::c9::gG::gH::gI::gJ::gK::gL::gM::gN::gO::gP::c20::c21::gQ::gR::gT::gU::gW::gX::gY::gZ::hJ::hZ::iA::iB::iC::iD::iE::c37::iF::iG::iH::iI::iJ::iK::iL::iM::c46::iN::iO::iP::iQ::c51::iR::c53::iS::iT::iU::iV::iW::iX::iY::iZ::jA::jB::jC::jD::jE::jF::jG::jH::jI::jJ::jK::jL::jM::c75::jN::jO::jP::jQ::c80::jR::jS::jT::jU::c85::jV::jW::jX::jY::jZ::kA::kB::kC::kD::kE::kF::kG::kH::kI::aA::aB::aC::aD::aF::aG::aH::aI::aJ::aK::aL::aM::aN::aO::aP::aQ::aR::aS::aT::aU::aV::aW::aX::aY::aZ::bB::bC::c127::bD::bE::bF::bG::bH::bI::bJ::bK::bL::bM::bN::bO::bP::bQ::bR::c143::bS::c145::bT::bU::bV::bW::bX::bY::bZ::cA::cB::cC::cD::cE::cF::cG::cH::cI::cJ::cL::cM::cO::cP::c167::c168::cQ::cS::c171::cT::c173::cU::c175::cV::cW::cX::cY::cZ::dA::dB::dC::dD::dE::dF::dG::dH::dI::dJ::dL::dM::dO::dP::dQ::dR::dS::dT::dU::dV::dW::dX::dY::dZ::eA::eC::eD::eH::eJ::c210::eK::c212::c213::eO::eR::eS::eV::eW::eX::eY::eZ::fA::fB::fC::fD::fE::fH::fI::fJ::fK::fL::c232::c233::fN::fO::fP::fQ::fR::fS::fT::fU::fV::fW::fX::fY::fZ::gA::gB::gC::gD::gE::gF::[]).toArray,[]⟩ w:=by
 conv=>arg 2;whnf
 have HK:=A0 K;have HP:=A0 hP;have HV:=A0 hv;clear K hP hv;have c3:=HK.out.S.cell 3 (.int .i64 h.size) rfl;have c0:=HK.out.S.cell 0 (.int .u8 h.typ) rfl;by_cases s0:h.size<0
 ·refine wp_seq_k (λK1 AA=> ?_)
  have AB:=A0 AA;clear AA;go_wp2_with fail
  refine(M8 [v,0] w.heap.size 2 _ (O5 w [.int .i64 v,.int .i64 0] 3) (A1Y HV.out (.inl rfl)) (by simp)).mono ?_;rintro e w2 ⟨v2,rfl,AC,AE,AD⟩;have AG:=A0 (HK.out.alloc _ AC);have AI:=A0 AE;have AH:=A0 AD;clear AC AE AD;go_wp2_with fail
  refine AB.out _ _ ?_;exact A7Z f h L hb v2 v4 w2 w0 AG.out AI.out P (λe _=>absurd (AH.out e 0 (by simp)) (by decide))
 by_cases s1:0<h.size
 ·by_cases t1:h.typ=49
  ·refine wp_seq_k (λK1 AA=> ?_)
   have AB:=A0 AA;clear AA;go_wp2_with fail
   refine(M8 [v,0] w.heap.size 2 _ (O5 w [.int .i64 v,.int .i64 0] 3) (A1Y HV.out (.inl rfl)) (by simp)).mono ?_;rintro e w2 ⟨v2,rfl,AC,AE,AD⟩;have AG:=A0 (HK.out.alloc _ AC);have AI:=A0 AE;have AH:=A0 AD;clear AC AE AD;go_wp2_with fail
   refine AB.out _ _ ?_;exact A7Z f h L hb v2 v4 w2 w0 AG.out AI.out P (λe _=>absurd (AH.out e 0 (by simp)) (by decide))
  ·by_cases t2:h.typ=50
   ·refine wp_seq_k (λK1 AA=> ?_)
    have AB:=A0 AA;clear AA;go_wp2_with fail
    refine(M8 [v,0] w.heap.size 2 _ (O5 w [.int .i64 v,.int .i64 0] 3) (A1Y HV.out (.inl rfl)) (by simp)).mono ?_;rintro e w2 ⟨v2,rfl,AC,AE,AD⟩;have AG:=A0 (HK.out.alloc _ AC);have AI:=A0 AE;have AH:=A0 AD;clear AC AE AD;go_wp2_with fail
    refine AB.out _ _ ?_;exact A7Z f h L hb v2 v4 w2 w0 AG.out AI.out P (λe _=>absurd (AH.out e 0 (by simp)) (by decide))
   ·have HF:Hid ((0<=h.size/\(0<h.size->h.typ≠49/\h.typ≠50))):=A0 ⟨by omega,λ_=>⟨t1,t2⟩⟩
    have e1: (h.typ==49)=false:=by simpa using t1
    have e2: (h.typ==50)=false:=by simpa using t2
    refine wp_seq_k (λK1 AA=> ?_);have AB:=A0 AA;clear AA;go_wp2_with fail
    refine AB.out _ _ ?_;exact A7Z f h L hb v v4 w w0 HK.out HV.out P (λe k=>HP.out e ⟨HF.out,k⟩)
 ·have HF:Hid ((0<=h.size/\(0<h.size->h.typ≠49/\h.typ≠50))):=A0 ⟨by omega,λe=>absurd e s1⟩
  refine wp_seq_k (λK1 AA=> ?_);have AB:=A0 AA;clear AA;go_wp2_with fail
  refine AB.out _ _ ?_;exact A7Z f h L hb v v4 w w0 HK.out HV.out P (λe k=>HP.out e ⟨HF.out,k⟩)
theorem B6x (f:Int) (h:IH) (L:List (List UInt8×List UInt8)) (hb:Nat) (v v4:Int) (w w0:World) (K:CS hb h L w0 w) (hv:tri v) (P:Prop) (hP:v=1->B6e h L f->P):
  Code.wp Tryz.prog B4Q (bodyPost Tryz.prog Tryz.f27 (P9 P w0)) ⟨(c0::.int .i64 f::.pointer (some ⟨hb,0,none⟩)::c3::.int .i64 v4::.int .i64 v::c6::c7::c8::c9::gG::gH::gI::gJ::gK::gL::gM::gN::gO::gP::c20::c21::gQ::gR::gT::gU::gW::gX::gY::gZ::hJ::hZ::iA::iB::iC::iD::iE::c37::iF::iG::iH::iI::iJ::iK::iL::iM::c46::iN::iO::iP::iQ::c51::iR::c53::iS::iT::iU::iV::iW::iX::iY::iZ::jA::jB::jC::jD::jE::jF::jG::jH::jI::jJ::jK::jL::jM::c75::jN::jO::jP::jQ::c80::jR::jS::jT::jU::c85::jV::jW::jX::jY::jZ::kA::kB::kC::kD::kE::kF::kG::kH::kI::aA::aB::aC::aD::aF::aG::aH::aI::aJ::aK::aL::aM::aN::aO::aP::aQ::aR::aS::aT::aU::aV::aW::aX::aY::aZ::bB::bC::c127::bD::bE::bF::bG::bH::bI::bJ::bK::bL::bM::bN::bO::bP::bQ::bR::c143::bS::c145::bT::bU::bV::bW::bX::bY::bZ::cA::cB::cC::cD::cE::cF::cG::cH::cI::cJ::cL::cM::cO::cP::c167::c168::cQ::cS::c171::cT::c173::cU::c175::cV::cW::cX::cY::cZ::dA::dB::dC::dD::dE::dF::dG::dH::dI::dJ::dL::dM::dO::dP::dQ::dR::dS::dT::dU::dV::dW::dX::dY::dZ::eA::eC::eD::eH::eJ::c210::eK::c212::c213::eO::eR::eS::eV::eW::eX::eY::eZ::fA::fB::fC::fD::fE::fH::fI::fJ::fK::fL::c232::c233::fN::fO::fP::fQ::fR::fS::fT::fU::fV::fW::fX::fY::fZ::gA::gB::gC::gD::gE::gF::[]).toArray,[]⟩ w:=by
 conv=>arg 2;whnf
 have HK:=A0 K;have HP:=A0 hP;have HV:=A0 hv;clear K hP hv;by_cases s0:h.size<0
 ·cases hd:A4u h.typ with
  |false=>
   by_cases h1:f=1
   ·subst h1
    refine wp_seq_k (λK1 AI=> ?_);have AR:=A0 AI;clear AI;refine J1 (S:=λw'=>SB hb h w') (n:=27) (l0:=S0 27 0) (by kernel_rfl) rfl (by kernel_rfl) HK.out.S (λAV AA hHeld=> ?_);have AE:Hid (CS hb h L w0 w.drew):=A0 (HK.out.below ((Below.refl _ w).drew));clear HK;generalize w.drew=u0 at*;refine tk AA.out 0 (some 138) 27 1 ?va0 ?aa0 ?ya0 ?za0 ?ra0
    case ya0=>intro w AB;go_simp;try with_reducible rfl
    case za0=>simp only[Act.put,C5,C6,C7];exact rfl
    refine tk AA.out 1 (some 139) 27 3 ?va1 ?aa1 ?ya1 ?za1 ?ra1
    case ya1=>intro w AB;go_simp;try with_reducible rfl
    case za1=>simp only[Act.put,C5,C6,C7];exact rfl
    refine tkl AA.out 2 (some 140) 27 7 ⟨hb,3,none⟩ (.int .i64 h.size) ?aa2 (λw' AC=>ld2 (AC.cell 3 (.int .i64 h.size) rfl)) ?za2 ?ra2
    case za2=>simp only[Act.put,C5,C6,C7];exact rfl
    refine tk AA.out 3 (some 141) 27 15 (.bool false) ?aa3 ?ya3 ?za3 ?ra3
    case ya3=>intro w AB;go_simp;try with_reducible rfl
    case za3=>simp only[Act.put,C5,C6,C7];exact rfl
    refine tk AA.out 4 (some 142) 27 31 ?va4 ?aa4 ?ya4 ?za4 ?ra4
    case ya4=>intro w AB;go_simp;try with_reducible rfl
    case za4=>simp only[Act.put,C5,C6,C7];exact rfl
    refine tk AA.out 20 (some 158) 27 1048607 ?va20 ?aa20 ?ya20 ?za20 ?ra20
    case ya20=>intro w AB;go_simp;try with_reducible rfl
    case za20=>simp only[Act.put,C5,C6,C7];exact rfl
    refine tkl AA.out 21 (some 159) 27 3145759 ⟨hb,9,none⟩ (.agg #[.int .i64 h.ms,.int .i64 h.mn]) ?aa21 (λw' AC=>B2f (AC.cell 9 (.int .i64 h.ms) rfl) (AC.cell 10 (.int .i64 h.mn) rfl)) ?za21 ?ra21
    case za21=>simp only[Act.put,C5,C6,C7];exact rfl
    refine tk AA.out 22 (some 160) 27 7340063 ?va22 ?aa22 ?ya22 ?za22 ?ra22
    case ya22=>intro w AB;go_simp;try with_reducible rfl
    case za22=>simp only[Act.put,C5,C6,C7];exact rfl
    refine tkg AA.out 5 (some 143) 27 7340095 ?va5 ?aa5 ?ya5 ?za5 ?ra5
    case ya5=>intro w AB;go_simp;try with_reducible rfl
    case za5=>simp only[Act.put,C5,C6,C7];exact rfl
    refine tkl AA.out 6 (some 144) 27 7340159 ⟨hb,0,none⟩ (.int .u8 h.typ) ?aa6 (λw' AC=>ld5 (AC.cell 0 (.int .u8 h.typ) rfl)) ?za6 ?ra6
    case za6=>simp only[Act.put,C5,C6,C7];exact rfl
    refine rdy AA.out 7 27 7340287 (λK hK=> ?_);rw[if_pos (by rw[AA.out];kernel_rfl)];go_simp
    go_at_call 44
    refine(A2C h.typ u0).mono ?_;rw[hd];rintro e ux ⟨rfl,rfl⟩;refine hK.out _ _ AE.out.S (λhHeld=> ?_);clear hK K;try simp only[Act.put,C5,C6,C7]
    refine tkg AA.out 8 (some 146) 27 7340543 ?va8 ?aa8 ?ya8 ?za8 ?ra8
    case ya8=>intro w AB;go_simp;try with_reducible rfl
    case za8=>simp only[Act.put,C5,C6,C7];exact rfl
    refine tk AA.out 9 (some 147) 27 7341055 ?va9 ?aa9 ?ya9 ?za9 ?ra9
    case ya9=>intro w AB;go_simp;try with_reducible rfl
    case za9=>simp only[Act.put,C5,C6,C7];exact rfl
    refine tk AA.out 10 (some 148) 27 7342079 ?va10 ?aa10 ?ya10 ?za10 ?ra10
    case ya10=>intro w AB;go_simp;try with_reducible rfl
    case za10=>simp only[Act.put,C5,C6,C7];exact rfl
    refine tkg AA.out 11 (some 149) 27 7344127 ?va11 ?aa11 ?ya11 ?za11 ?ra11
    case ya11=>intro w AB;go_simp;try with_reducible rfl
    case za11=>simp only[Act.put,C5,C6,C7];exact rfl
    refine tkg AA.out 12 (some 150) 27 7348223 (.bool false) ?aa12 ?ya12 ?za12 ?ra12
    case ya12=>intro w AB;go_simp;try with_reducible rfl
    case za12=>simp only[Act.put,C5,C6,C7];exact rfl
    refine tkg AA.out 13 (some 151) 27 7356415 ?va13 ?aa13 ?ya13 ?za13 ?ra13
    case ya13=>intro w AB;go_simp;try with_reducible rfl
    case za13=>simp only[Act.put,C5,C6,C7];exact rfl
    refine tkg AA.out 14 (some 152) 27 7372799 ?va14 ?aa14 ?ya14 ?za14 ?ra14
    case ya14=>intro w AB;go_simp;try with_reducible rfl
    case za14=>simp only[Act.put,C5,C6,C7];exact rfl
    refine tkl AA.out 15 (some 153) 27 7405567 ⟨hb,3,none⟩ (.int .i64 h.size) ?aa15 (λw' AC=>ld2 (AC.cell 3 (.int .i64 h.size) rfl)) ?za15 ?ra15
    case za15=>simp only[Act.put,C5,C6,C7];exact rfl
    refine tkg AA.out 16 (some 154) 27 7471103 ?va16 ?aa16 ?ya16 ?za16 ?ra16
    case ya16=>intro w AB;go_simp;try with_reducible rfl
    case za16=>simp only[Act.put,C5,C6,C7];exact rfl
    refine tkg AA.out 17 (some 155) 27 7602175 ?va17 ?aa17 ?ya17 ?za17 ?ra17
    case ya17=>intro w AB;go_simp;try with_reducible rfl
    case za17=>simp only[Act.put,C5,C6,C7];exact rfl
    refine tk AA.out 18 (some 156) 27 7864319 ?va18 ?aa18 ?ya18 ?za18 ?ra18
    case ya18=>intro w AB;go_simp;try with_reducible rfl
    case za18=>simp only[Act.put,C5,C6,C7];exact rfl
    refine rdy AA.out 19 27 8388607 (λK hK=> ?_);go_simp
    go_at_call 55
    refine(K6 _ _).mono ?_;rintro e ux ⟨rfl,rfl⟩;refine hK.out _ _ AE.out.S (λhHeld=> ?_);clear hK K;try simp only[Act.put,C5,C6,C7]
    refine rdy AA.out 23 27 16777215 (λK hK=> ?_);go_simp
    go_at_call 60
    refine(W2 h.ms h.mn 1 _).mono ?_;rintro e u1 ⟨x1,rfl,AJ,AQ,AM⟩;have AD:=A0 (AE.out.below AJ);have AU:=A0 AQ;have AS:=A0 AM;refine hK.out _ _ AD.out.S (λhHeld=> ?_);clear hK K AJ AQ AM;try simp only[Act.put,C5,C6,C7]
    refine rdy AA.out 24 27 33554431 (λK hK=> ?_);go_simp
    refine hK.out _ _ (AD.out.below ((Below.refl _ _).alloc (Nat.le_refl _) _)).S (λhHeld=> ?_);clear hK K;try simp only[Act.put,C5,C6,C7]
    refine rdy AA.out 25 27 67108863 (λK hK=> ?_);go_simp
    go_at_call 57
    refine(M8 [v,J7 (decide (h.size<8589934592)),x1] u1.heap.size 3 _ (O5 u1 [.int .i64 (v),.int .i64 (J7 (decide (h.size<8589934592))),.int .i64 (x1)] 3) ?_ (by simp)).mono ?_
    ·intro x hx
     simp only[List.mem_cons,List.not_mem_nil,or_false] at hx;rcases hx with rfl|rfl|rfl
     ·exact HV.out
     ·exact L9 _
     ·exact AU.out
    rintro e u9 ⟨v2,rfl,AL,AP,AO⟩;have AH:=A0 (AD.out.alloc _ AL);have AT:=A0 AP;have AG:=A0 AO;refine hK.out _ _ AH.out.S (λhHeld=> ?_);clear hK K AL AP AO;try simp only[Act.put,C5,C6,C7]
    refine tk AA.out 26 (some 5) 27 134217727 ?va26 ?aa26 ?ya26 ?za26 ?ra26
    case ya26=>intro w AB;go_simp;try with_reducible rfl
    case za26=>simp only[Act.put,C5,C6,C7];exact rfl
    refine wpAnyH_done (by rw[AA.out];kernel_rfl) ?_ _;refine AR.out _ _ ?_;exact A7Y 1 h L hb v2 v4 _ w0 AH.out AT.out P (λe k=>HP.out (AG.out e v (by simp)) ⟨⟨AS.out (AG.out e x1 (by simp)),λe1=>of_decide_eq_true (U0 (AG.out e (J7 (decide (h.size<8589934592))) (by simp)))⟩,k⟩)
   ·have AW: (f==1)=false:=by simpa using h1
    have AX: (f !=1)=true:=by simpa using h1
    refine wp_seq_k (λK1 AI=> ?_);have AR:=A0 AI;clear AI;refine J1 (S:=λw'=>SB hb h w') (n:=27) (l0:=S0 27 0) (by kernel_rfl) rfl (by kernel_rfl) HK.out.S (λAV AA hHeld=> ?_);have AE:Hid (CS hb h L w0 w.drew):=A0 (HK.out.below ((Below.refl _ w).drew));clear HK;generalize w.drew=u0 at*;refine tk AA.out 0 (some 138) 27 1 ?vb0 ?ab0 ?yb0 ?zb0 ?rb0
    case yb0=>intro w AB;go_simp;try with_reducible rfl
    case zb0=>simp only[Act.put,C5,C6,C7];exact rfl
    refine tk AA.out 1 (some 139) 27 3 ?vb1 ?ab1 ?yb1 ?zb1 ?rb1
    case yb1=>intro w AB;go_simp;try with_reducible rfl
    case zb1=>simp only[Act.put,C5,C6,C7];exact rfl
    refine tkl AA.out 2 (some 140) 27 7 ⟨hb,3,none⟩ (.int .i64 h.size) ?ab2 (λw' AC=>ld2 (AC.cell 3 (.int .i64 h.size) rfl)) ?zb2 ?rb2
    case zb2=>simp only[Act.put,C5,C6,C7];exact rfl
    refine tk AA.out 3 (some 141) 27 15 (.bool false) ?ab3 ?yb3 ?zb3 ?rb3
    case yb3=>intro w AB;go_simp;try with_reducible rfl
    case zb3=>simp only[Act.put,C5,C6,C7];exact rfl
    refine tk AA.out 4 (some 142) 27 31 ?vb4 ?ab4 ?yb4 ?zb4 ?rb4
    case yb4=>intro w AB;go_simp;try with_reducible rfl
    case zb4=>simp only[Act.put,C5,C6,C7];exact rfl
    refine tk AA.out 20 (some 158) 27 1048607 ?vb20 ?ab20 ?yb20 ?zb20 ?rb20
    case yb20=>intro w AB;go_simp;try with_reducible rfl
    case zb20=>simp only[Act.put,C5,C6,C7];exact rfl
    refine tkl AA.out 21 (some 159) 27 3145759 ⟨hb,9,none⟩ (.agg #[.int .i64 h.ms,.int .i64 h.mn]) ?ab21 (λw' AC=>B2f (AC.cell 9 (.int .i64 h.ms) rfl) (AC.cell 10 (.int .i64 h.mn) rfl)) ?zb21 ?rb21
    case zb21=>simp only[Act.put,C5,C6,C7];exact rfl
    refine tk AA.out 22 (some 160) 27 7340063 ?vb22 ?ab22 ?yb22 ?zb22 ?rb22
    case yb22=>intro w AB;go_simp;try with_reducible rfl
    case zb22=>simp only[Act.put,C5,C6,C7];exact rfl
    refine tkg AA.out 5 (some 143) 27 7340095 ?vb5 ?ab5 ?yb5 ?zb5 ?rb5
    case yb5=>intro w AB;go_simp;try with_reducible rfl
    case zb5=>simp only[Act.put,C5,C6,C7];exact rfl
    refine tkl AA.out 6 (some 144) 27 7340159 ⟨hb,0,none⟩ (.int .u8 h.typ) ?ab6 (λw' AC=>ld5 (AC.cell 0 (.int .u8 h.typ) rfl)) ?zb6 ?rb6
    case zb6=>simp only[Act.put,C5,C6,C7];exact rfl
    refine rdy AA.out 7 27 7340287 (λK hK=> ?_);rw[if_pos (by rw[AA.out];kernel_rfl)];go_simp
    go_at_call 44
    refine(A2C h.typ u0).mono ?_;rw[hd];rintro e ux ⟨rfl,rfl⟩;refine hK.out _ _ AE.out.S (λhHeld=> ?_);clear hK K;try simp only[Act.put,C5,C6,C7]
    refine tkg AA.out 8 (some 146) 27 7340543 ?vb8 ?ab8 ?yb8 ?zb8 ?rb8
    case yb8=>intro w AB;go_simp;try with_reducible rfl
    case zb8=>simp only[Act.put,C5,C6,C7];exact rfl
    refine tk AA.out 9 (some 147) 27 7341055 ?vb9 ?ab9 ?yb9 ?zb9 ?rb9
    case yb9=>intro w AB;go_simp;try with_reducible rfl
    case zb9=>simp only[Act.put,C5,C6,C7];exact rfl
    refine tk AA.out 10 (some 148) 27 7342079 ?vb10 ?ab10 ?yb10 ?zb10 ?rb10
    case yb10=>intro w AB;go_simp;try with_reducible rfl
    case zb10=>simp only[Act.put,C5,C6,C7];exact rfl
    refine tkg AA.out 11 (some 149) 27 7344127 ?vb11 ?ab11 ?yb11 ?zb11 ?rb11
    case yb11=>intro w AB;go_simp;try with_reducible rfl
    case zb11=>simp only[Act.put,C5,C6,C7];exact rfl
    refine tkg AA.out 12 (some 150) 27 7348223 (.bool true) ?ab12 ?yb12 ?zb12 ?rb12
    case yb12=>intro w AB;go_simp;try with_reducible rfl
    case zb12=>simp only[Act.put,C5,C6,C7];exact rfl
    refine tkg AA.out 13 (some 151) 27 7356415 ?vb13 ?ab13 ?yb13 ?zb13 ?rb13
    case yb13=>intro w AB;go_simp;try with_reducible rfl
    case zb13=>simp only[Act.put,C5,C6,C7];exact rfl
    refine tku AA.out 14 (some 152) 27 7372799 ?ab14 ?zb14 ?rb14
    case zb14=>simp only[Act.put,C5,C6,C7];exact rfl
    refine tku AA.out 15 (some 153) 27 7405567 ?ab15 ?zb15 ?rb15
    case zb15=>simp only[Act.put,C5,C6,C7];exact rfl
    refine tku AA.out 16 (some 154) 27 7471103 ?ab16 ?zb16 ?rb16
    case zb16=>simp only[Act.put,C5,C6,C7];exact rfl
    refine tkg AA.out 17 (some 155) 27 7602175 ?vb17 ?ab17 ?yb17 ?zb17 ?rb17
    case yb17=>intro w AB;go_simp;try with_reducible rfl
    case zb17=>simp only[Act.put,C5,C6,C7];exact rfl
    refine tk AA.out 18 (some 156) 27 7864319 ?vb18 ?ab18 ?yb18 ?zb18 ?rb18
    case yb18=>intro w AB;go_simp;try with_reducible rfl
    case zb18=>simp only[Act.put,C5,C6,C7];exact rfl
    refine rdy AA.out 19 27 8388607 (λK hK=> ?_);go_simp
    go_at_call 55
    refine(K6 _ _).mono ?_;rintro e ux ⟨rfl,rfl⟩;refine hK.out _ _ AE.out.S (λhHeld=> ?_);clear hK K;try simp only[Act.put,C5,C6,C7]
    refine rdy AA.out 23 27 16777215 (λK hK=> ?_);go_simp
    go_at_call 60
    refine(W2 h.ms h.mn f _).mono ?_;rintro e u1 ⟨x1,rfl,AJ,AQ,AM⟩;have AD:=A0 (AE.out.below AJ);have AU:=A0 AQ;have AS:=A0 AM;refine hK.out _ _ AD.out.S (λhHeld=> ?_);clear hK K AJ AQ AM;try simp only[Act.put,C5,C6,C7]
    refine rdy AA.out 24 27 33554431 (λK hK=> ?_);go_simp
    refine hK.out _ _ (AD.out.below ((Below.refl _ _).alloc (Nat.le_refl _) _)).S (λhHeld=> ?_);clear hK K;try simp only[Act.put,C5,C6,C7]
    refine rdy AA.out 25 27 67108863 (λK hK=> ?_);go_simp
    go_at_call 57
    refine(M8 [v,J7 true,x1] u1.heap.size 3 _ (O5 u1 [.int .i64 (v),.int .i64 (J7 true),.int .i64 (x1)] 3) ?_ (by simp)).mono ?_
    ·intro x hx
     simp only[List.mem_cons,List.not_mem_nil,or_false] at hx;rcases hx with rfl|rfl|rfl
     ·exact HV.out
     ·exact L9 _
     ·exact AU.out
    rintro e u9 ⟨v2,rfl,AL,AP,AO⟩;have AH:=A0 (AD.out.alloc _ AL);have AT:=A0 AP;have AG:=A0 AO;refine hK.out _ _ AH.out.S (λhHeld=> ?_);clear hK K AL AP AO;try simp only[Act.put,C5,C6,C7]
    refine tk AA.out 26 (some 5) 27 134217727 ?vb26 ?ab26 ?yb26 ?zb26 ?rb26
    case yb26=>intro w AB;go_simp;try with_reducible rfl
    case zb26=>simp only[Act.put,C5,C6,C7];exact rfl
    refine wpAnyH_done (by rw[AA.out];kernel_rfl) ?_ _;refine AR.out _ _ ?_;exact A7Y f h L hb v2 v4 _ w0 AH.out AT.out P (λe k=>HP.out (AG.out e v (by simp)) ⟨⟨AS.out (AG.out e x1 (by simp)),λe1=>absurd e1 h1⟩,k⟩)
  |true=>
   refine wp_seq_k (λK1 AI=> ?_);have AR:=A0 AI;clear AI;refine J1 (S:=λw'=>SB hb h w') (n:=27) (l0:=S0 27 0) (by kernel_rfl) rfl (by kernel_rfl) HK.out.S (λAV AA hHeld=> ?_);have AE:Hid (CS hb h L w0 w.drew):=A0 (HK.out.below ((Below.refl _ w).drew));clear HK;generalize w.drew=u0 at*;refine tk AA.out 0 (some 138) 27 1 ?vc0 ?ac0 ?yc0 ?zc0 ?rc0
   case yc0=>intro w AB;go_simp;try with_reducible rfl
   case zc0=>simp only[Act.put,C5,C6,C7];exact rfl
   refine tk AA.out 1 (some 139) 27 3 ?vc1 ?ac1 ?yc1 ?zc1 ?rc1
   case yc1=>intro w AB;go_simp;try with_reducible rfl
   case zc1=>simp only[Act.put,C5,C6,C7];exact rfl
   refine tkl AA.out 2 (some 140) 27 7 ⟨hb,3,none⟩ (.int .i64 h.size) ?ac2 (λw' AC=>ld2 (AC.cell 3 (.int .i64 h.size) rfl)) ?zc2 ?rc2
   case zc2=>simp only[Act.put,C5,C6,C7];exact rfl
   refine tk AA.out 3 (some 141) 27 15 (.bool false) ?ac3 ?yc3 ?zc3 ?rc3
   case yc3=>intro w AB;go_simp;try with_reducible rfl
   case zc3=>simp only[Act.put,C5,C6,C7];exact rfl
   refine tk AA.out 4 (some 142) 27 31 ?vc4 ?ac4 ?yc4 ?zc4 ?rc4
   case yc4=>intro w AB;go_simp;try with_reducible rfl
   case zc4=>simp only[Act.put,C5,C6,C7];exact rfl
   refine tk AA.out 20 (some 158) 27 1048607 ?vc20 ?ac20 ?yc20 ?zc20 ?rc20
   case yc20=>intro w AB;go_simp;try with_reducible rfl
   case zc20=>simp only[Act.put,C5,C6,C7];exact rfl
   refine tkl AA.out 21 (some 159) 27 3145759 ⟨hb,9,none⟩ (.agg #[.int .i64 h.ms,.int .i64 h.mn]) ?ac21 (λw' AC=>B2f (AC.cell 9 (.int .i64 h.ms) rfl) (AC.cell 10 (.int .i64 h.mn) rfl)) ?zc21 ?rc21
   case zc21=>simp only[Act.put,C5,C6,C7];exact rfl
   refine tk AA.out 22 (some 160) 27 7340063 ?vc22 ?ac22 ?yc22 ?zc22 ?rc22
   case yc22=>intro w AB;go_simp;try with_reducible rfl
   case zc22=>simp only[Act.put,C5,C6,C7];exact rfl
   refine tkg AA.out 5 (some 143) 27 7340095 ?vc5 ?ac5 ?yc5 ?zc5 ?rc5
   case yc5=>intro w AB;go_simp;try with_reducible rfl
   case zc5=>simp only[Act.put,C5,C6,C7];exact rfl
   refine tkl AA.out 6 (some 144) 27 7340159 ⟨hb,0,none⟩ (.int .u8 h.typ) ?ac6 (λw' AC=>ld5 (AC.cell 0 (.int .u8 h.typ) rfl)) ?zc6 ?rc6
   case zc6=>simp only[Act.put,C5,C6,C7];exact rfl
   refine rdy AA.out 7 27 7340287 (λK hK=> ?_);rw[if_pos (by rw[AA.out];kernel_rfl)];go_simp
   go_at_call 44
   refine(A2C h.typ u0).mono ?_;rw[hd];rintro e ux ⟨rfl,rfl⟩;refine hK.out _ _ AE.out.S (λhHeld=> ?_);clear hK K;try simp only[Act.put,C5,C6,C7]
   refine tkg AA.out 8 (some 146) 27 7340543 ?vc8 ?ac8 ?yc8 ?zc8 ?rc8
   case yc8=>intro w AB;go_simp;try with_reducible rfl
   case zc8=>simp only[Act.put,C5,C6,C7];exact rfl
   refine tk AA.out 9 (some 147) 27 7341055 ?vc9 ?ac9 ?yc9 ?zc9 ?rc9
   case yc9=>intro w AB;go_simp;try with_reducible rfl
   case zc9=>simp only[Act.put,C5,C6,C7];exact rfl
   refine tk AA.out 10 (some 148) 27 7342079 ?vc10 ?ac10 ?yc10 ?zc10 ?rc10
   case yc10=>intro w AB;go_simp;try with_reducible rfl
   case zc10=>simp only[Act.put,C5,C6,C7];exact rfl
   refine tku AA.out 11 (some 149) 27 7344127 ?ac11 ?zc11 ?rc11
   case zc11=>simp only[Act.put,C5,C6,C7];exact rfl
   refine tku AA.out 12 (some 150) 27 7348223 ?ac12 ?zc12 ?rc12
   case zc12=>simp only[Act.put,C5,C6,C7];exact rfl
   refine tku AA.out 13 (some 151) 27 7356415 ?ac13 ?zc13 ?rc13
   case zc13=>simp only[Act.put,C5,C6,C7];exact rfl
   refine tku AA.out 14 (some 152) 27 7372799 ?ac14 ?zc14 ?rc14
   case zc14=>simp only[Act.put,C5,C6,C7];exact rfl
   refine tku AA.out 15 (some 153) 27 7405567 ?ac15 ?zc15 ?rc15
   case zc15=>simp only[Act.put,C5,C6,C7];exact rfl
   refine tku AA.out 16 (some 154) 27 7471103 ?ac16 ?zc16 ?rc16
   case zc16=>simp only[Act.put,C5,C6,C7];exact rfl
   refine tku AA.out 17 (some 155) 27 7602175 ?ac17 ?zc17 ?rc17
   case zc17=>simp only[Act.put,C5,C6,C7];exact rfl
   refine tk AA.out 18 (some 156) 27 7864319 ?vc18 ?ac18 ?yc18 ?zc18 ?rc18
   case yc18=>intro w AB;go_simp;try with_reducible rfl
   case zc18=>simp only[Act.put,C5,C6,C7];exact rfl
   refine rdy AA.out 19 27 8388607 (λK hK=> ?_);go_simp
   go_at_call 55
   refine(K6 _ _).mono ?_;rintro e ux ⟨rfl,rfl⟩;refine hK.out _ _ AE.out.S (λhHeld=> ?_);clear hK K;try simp only[Act.put,C5,C6,C7]
   refine rdy AA.out 23 27 16777215 (λK hK=> ?_);go_simp
   go_at_call 60
   refine(W2 h.ms h.mn f _).mono ?_;rintro e u1 ⟨x1,rfl,AJ,AQ,AM⟩;have AD:=A0 (AE.out.below AJ);have AU:=A0 AQ;have AS:=A0 AM;refine hK.out _ _ AD.out.S (λhHeld=> ?_);clear hK K AJ AQ AM;try simp only[Act.put,C5,C6,C7]
   refine rdy AA.out 24 27 33554431 (λK hK=> ?_);go_simp
   refine hK.out _ _ (AD.out.below ((Below.refl _ _).alloc (Nat.le_refl _) _)).S (λhHeld=> ?_);clear hK K;try simp only[Act.put,C5,C6,C7]
   refine rdy AA.out 25 27 67108863 (λK hK=> ?_);go_simp
   go_at_call 57
   refine(M8 [v,J7 false,x1] u1.heap.size 3 _ (O5 u1 [.int .i64 (v),.int .i64 (J7 false),.int .i64 (x1)] 3) ?_ (by simp)).mono ?_
   ·intro x hx
    simp only[List.mem_cons,List.not_mem_nil,or_false] at hx;rcases hx with rfl|rfl|rfl
    ·exact HV.out
    ·exact L9 _
    ·exact AU.out
   rintro e u9 ⟨v2,rfl,AL,AP,AO⟩;have AH:=A0 (AD.out.alloc _ AL);have AT:=A0 AP;have AG:=A0 AO;refine hK.out _ _ AH.out.S (λhHeld=> ?_);clear hK K AL AP AO;try simp only[Act.put,C5,C6,C7]
   refine tk AA.out 26 (some 5) 27 134217727 ?vc26 ?ac26 ?yc26 ?zc26 ?rc26
   case yc26=>intro w AB;go_simp;try with_reducible rfl
   case zc26=>simp only[Act.put,C5,C6,C7];exact rfl
   refine wpAnyH_done (by rw[AA.out];kernel_rfl) ?_ _;refine AR.out _ _ ?_;exact A7Y f h L hb v2 v4 _ w0 AH.out AT.out P (λe k=>HP.out (AG.out e v (by simp)) ⟨⟨AS.out (AG.out e x1 (by simp)),λe1=>absurd k.1.1 (by omega)⟩,k⟩)
 ·have s1:0<=h.size:=by omega
  by_cases h1:f=1
  ·subst h1
   refine wp_seq_k (λK1 AI=> ?_);have AR:=A0 AI;clear AI;refine J1 (S:=λw'=>SB hb h w') (n:=27) (l0:=S0 27 0) (by kernel_rfl) rfl (by kernel_rfl) HK.out.S (λAV AA hHeld=> ?_);have AE:Hid (CS hb h L w0 w.drew):=A0 (HK.out.below ((Below.refl _ w).drew));clear HK;generalize w.drew=u0 at*;refine tk AA.out 0 (some 138) 27 1 ?vd0 ?ad0 ?yd0 ?zd0 ?rd0
   case yd0=>intro w AB;go_simp;try with_reducible rfl
   case zd0=>simp only[Act.put,C5,C6,C7];exact rfl
   refine tk AA.out 1 (some 139) 27 3 ?vd1 ?ad1 ?yd1 ?zd1 ?rd1
   case yd1=>intro w AB;go_simp;try with_reducible rfl
   case zd1=>simp only[Act.put,C5,C6,C7];exact rfl
   refine tkl AA.out 2 (some 140) 27 7 ⟨hb,3,none⟩ (.int .i64 h.size) ?ad2 (λw' AC=>ld2 (AC.cell 3 (.int .i64 h.size) rfl)) ?zd2 ?rd2
   case zd2=>simp only[Act.put,C5,C6,C7];exact rfl
   refine tk AA.out 3 (some 141) 27 15 (.bool true) ?ad3 ?yd3 ?zd3 ?rd3
   case yd3=>intro w AB;go_simp;try with_reducible rfl
   case zd3=>simp only[Act.put,C5,C6,C7];exact rfl
   refine tk AA.out 4 (some 142) 27 31 ?vd4 ?ad4 ?yd4 ?zd4 ?rd4
   case yd4=>intro w AB;go_simp;try with_reducible rfl
   case zd4=>simp only[Act.put,C5,C6,C7];exact rfl
   refine tk AA.out 20 (some 158) 27 1048607 ?vd20 ?ad20 ?yd20 ?zd20 ?rd20
   case yd20=>intro w AB;go_simp;try with_reducible rfl
   case zd20=>simp only[Act.put,C5,C6,C7];exact rfl
   refine tkl AA.out 21 (some 159) 27 3145759 ⟨hb,9,none⟩ (.agg #[.int .i64 h.ms,.int .i64 h.mn]) ?ad21 (λw' AC=>B2f (AC.cell 9 (.int .i64 h.ms) rfl) (AC.cell 10 (.int .i64 h.mn) rfl)) ?zd21 ?rd21
   case zd21=>simp only[Act.put,C5,C6,C7];exact rfl
   refine tk AA.out 22 (some 160) 27 7340063 ?vd22 ?ad22 ?yd22 ?zd22 ?rd22
   case yd22=>intro w AB;go_simp;try with_reducible rfl
   case zd22=>simp only[Act.put,C5,C6,C7];exact rfl
   refine tku AA.out 5 (some 143) 27 7340095 ?ad5 ?zd5 ?rd5
   case zd5=>simp only[Act.put,C5,C6,C7];exact rfl
   refine tku AA.out 6 (some 144) 27 7340159 ?ad6 ?zd6 ?rd6
   case zd6=>simp only[Act.put,C5,C6,C7];exact rfl
   refine tku AA.out 7 (some 145) 27 7340287 ?ad7 ?zd7 ?rd7
   case zd7=>simp only[Act.put,C5,C6,C7];exact rfl
   refine tku AA.out 8 (some 146) 27 7340543 ?ad8 ?zd8 ?rd8
   case zd8=>simp only[Act.put,C5,C6,C7];exact rfl
   refine tk AA.out 9 (some 147) 27 7341055 ?vd9 ?ad9 ?yd9 ?zd9 ?rd9
   case yd9=>intro w AB;go_simp;try with_reducible rfl
   case zd9=>simp only[Act.put,C5,C6,C7];exact rfl
   refine tk AA.out 10 (some 148) 27 7342079 ?vd10 ?ad10 ?yd10 ?zd10 ?rd10
   case yd10=>intro w AB;go_simp;try with_reducible rfl
   case zd10=>simp only[Act.put,C5,C6,C7];exact rfl
   refine tkg AA.out 11 (some 149) 27 7344127 ?vd11 ?ad11 ?yd11 ?zd11 ?rd11
   case yd11=>intro w AB;go_simp;try with_reducible rfl
   case zd11=>simp only[Act.put,C5,C6,C7];exact rfl
   refine tkg AA.out 12 (some 150) 27 7348223 (.bool false) ?ad12 ?yd12 ?zd12 ?rd12
   case yd12=>intro w AB;go_simp;try with_reducible rfl
   case zd12=>simp only[Act.put,C5,C6,C7];exact rfl
   refine tkg AA.out 13 (some 151) 27 7356415 ?vd13 ?ad13 ?yd13 ?zd13 ?rd13
   case yd13=>intro w AB;go_simp;try with_reducible rfl
   case zd13=>simp only[Act.put,C5,C6,C7];exact rfl
   refine tkg AA.out 14 (some 152) 27 7372799 ?vd14 ?ad14 ?yd14 ?zd14 ?rd14
   case yd14=>intro w AB;go_simp;try with_reducible rfl
   case zd14=>simp only[Act.put,C5,C6,C7];exact rfl
   refine tkl AA.out 15 (some 153) 27 7405567 ⟨hb,3,none⟩ (.int .i64 h.size) ?ad15 (λw' AC=>ld2 (AC.cell 3 (.int .i64 h.size) rfl)) ?zd15 ?rd15
   case zd15=>simp only[Act.put,C5,C6,C7];exact rfl
   refine tkg AA.out 16 (some 154) 27 7471103 ?vd16 ?ad16 ?yd16 ?zd16 ?rd16
   case yd16=>intro w AB;go_simp;try with_reducible rfl
   case zd16=>simp only[Act.put,C5,C6,C7];exact rfl
   refine tkg AA.out 17 (some 155) 27 7602175 ?vd17 ?ad17 ?yd17 ?zd17 ?rd17
   case yd17=>intro w AB;go_simp;try with_reducible rfl
   case zd17=>simp only[Act.put,C5,C6,C7];exact rfl
   refine tk AA.out 18 (some 156) 27 7864319 ?vd18 ?ad18 ?yd18 ?zd18 ?rd18
   case yd18=>intro w AB;go_simp;try with_reducible rfl
   case zd18=>simp only[Act.put,C5,C6,C7];exact rfl
   refine rdy AA.out 19 27 8388607 (λK hK=> ?_);go_simp
   go_at_call 55
   refine(K6 _ _).mono ?_;rintro e ux ⟨rfl,rfl⟩;refine hK.out _ _ AE.out.S (λhHeld=> ?_);clear hK K;try simp only[Act.put,C5,C6,C7]
   refine rdy AA.out 23 27 16777215 (λK hK=> ?_);go_simp
   go_at_call 60
   refine(W2 h.ms h.mn 1 _).mono ?_;rintro e u1 ⟨x1,rfl,AJ,AQ,AM⟩;have AD:=A0 (AE.out.below AJ);have AU:=A0 AQ;have AS:=A0 AM;refine hK.out _ _ AD.out.S (λhHeld=> ?_);clear hK K AJ AQ AM;try simp only[Act.put,C5,C6,C7]
   refine rdy AA.out 24 27 33554431 (λK hK=> ?_);go_simp
   refine hK.out _ _ (AD.out.below ((Below.refl _ _).alloc (Nat.le_refl _) _)).S (λhHeld=> ?_);clear hK K;try simp only[Act.put,C5,C6,C7]
   refine rdy AA.out 25 27 67108863 (λK hK=> ?_);go_simp
   go_at_call 57
   refine(M8 [v,J7 (decide (h.size<8589934592)),x1] u1.heap.size 3 _ (O5 u1 [.int .i64 (v),.int .i64 (J7 (decide (h.size<8589934592))),.int .i64 (x1)] 3) ?_ (by simp)).mono ?_
   ·intro x hx
    simp only[List.mem_cons,List.not_mem_nil,or_false] at hx;rcases hx with rfl|rfl|rfl
    ·exact HV.out
    ·exact L9 _
    ·exact AU.out
   rintro e u9 ⟨v2,rfl,AL,AP,AO⟩;have AH:=A0 (AD.out.alloc _ AL);have AT:=A0 AP;have AG:=A0 AO;refine hK.out _ _ AH.out.S (λhHeld=> ?_);clear hK K AL AP AO;try simp only[Act.put,C5,C6,C7]
   refine tk AA.out 26 (some 5) 27 134217727 ?vd26 ?ad26 ?yd26 ?zd26 ?rd26
   case yd26=>intro w AB;go_simp;try with_reducible rfl
   case zd26=>simp only[Act.put,C5,C6,C7];exact rfl
   refine wpAnyH_done (by rw[AA.out];kernel_rfl) ?_ _;refine AR.out _ _ ?_;exact A7Y 1 h L hb v2 v4 _ w0 AH.out AT.out P (λe k=>HP.out (AG.out e v (by simp)) ⟨⟨AS.out (AG.out e x1 (by simp)),λe1=>of_decide_eq_true (U0 (AG.out e (J7 (decide (h.size<8589934592))) (by simp)))⟩,k⟩)
  ·have AW: (f==1)=false:=by simpa using h1
   have AX: (f !=1)=true:=by simpa using h1
   refine wp_seq_k (λK1 AI=> ?_);have AR:=A0 AI;clear AI;refine J1 (S:=λw'=>SB hb h w') (n:=27) (l0:=S0 27 0) (by kernel_rfl) rfl (by kernel_rfl) HK.out.S (λAV AA hHeld=> ?_);have AE:Hid (CS hb h L w0 w.drew):=A0 (HK.out.below ((Below.refl _ w).drew));clear HK;generalize w.drew=u0 at*;refine tk AA.out 0 (some 138) 27 1 ?ve0 ?ae0 ?ye0 ?ze0 ?re0
   case ye0=>intro w AB;go_simp;try with_reducible rfl
   case ze0=>simp only[Act.put,C5,C6,C7];exact rfl
   refine tk AA.out 1 (some 139) 27 3 ?ve1 ?ae1 ?ye1 ?ze1 ?re1
   case ye1=>intro w AB;go_simp;try with_reducible rfl
   case ze1=>simp only[Act.put,C5,C6,C7];exact rfl
   refine tkl AA.out 2 (some 140) 27 7 ⟨hb,3,none⟩ (.int .i64 h.size) ?ae2 (λw' AC=>ld2 (AC.cell 3 (.int .i64 h.size) rfl)) ?ze2 ?re2
   case ze2=>simp only[Act.put,C5,C6,C7];exact rfl
   refine tk AA.out 3 (some 141) 27 15 (.bool true) ?ae3 ?ye3 ?ze3 ?re3
   case ye3=>intro w AB;go_simp;try with_reducible rfl
   case ze3=>simp only[Act.put,C5,C6,C7];exact rfl
   refine tk AA.out 4 (some 142) 27 31 ?ve4 ?ae4 ?ye4 ?ze4 ?re4
   case ye4=>intro w AB;go_simp;try with_reducible rfl
   case ze4=>simp only[Act.put,C5,C6,C7];exact rfl
   refine tk AA.out 20 (some 158) 27 1048607 ?ve20 ?ae20 ?ye20 ?ze20 ?re20
   case ye20=>intro w AB;go_simp;try with_reducible rfl
   case ze20=>simp only[Act.put,C5,C6,C7];exact rfl
   refine tkl AA.out 21 (some 159) 27 3145759 ⟨hb,9,none⟩ (.agg #[.int .i64 h.ms,.int .i64 h.mn]) ?ae21 (λw' AC=>B2f (AC.cell 9 (.int .i64 h.ms) rfl) (AC.cell 10 (.int .i64 h.mn) rfl)) ?ze21 ?re21
   case ze21=>simp only[Act.put,C5,C6,C7];exact rfl
   refine tk AA.out 22 (some 160) 27 7340063 ?ve22 ?ae22 ?ye22 ?ze22 ?re22
   case ye22=>intro w AB;go_simp;try with_reducible rfl
   case ze22=>simp only[Act.put,C5,C6,C7];exact rfl
   refine tku AA.out 5 (some 143) 27 7340095 ?ae5 ?ze5 ?re5
   case ze5=>simp only[Act.put,C5,C6,C7];exact rfl
   refine tku AA.out 6 (some 144) 27 7340159 ?ae6 ?ze6 ?re6
   case ze6=>simp only[Act.put,C5,C6,C7];exact rfl
   refine tku AA.out 7 (some 145) 27 7340287 ?ae7 ?ze7 ?re7
   case ze7=>simp only[Act.put,C5,C6,C7];exact rfl
   refine tku AA.out 8 (some 146) 27 7340543 ?ae8 ?ze8 ?re8
   case ze8=>simp only[Act.put,C5,C6,C7];exact rfl
   refine tk AA.out 9 (some 147) 27 7341055 ?ve9 ?ae9 ?ye9 ?ze9 ?re9
   case ye9=>intro w AB;go_simp;try with_reducible rfl
   case ze9=>simp only[Act.put,C5,C6,C7];exact rfl
   refine tk AA.out 10 (some 148) 27 7342079 ?ve10 ?ae10 ?ye10 ?ze10 ?re10
   case ye10=>intro w AB;go_simp;try with_reducible rfl
   case ze10=>simp only[Act.put,C5,C6,C7];exact rfl
   refine tkg AA.out 11 (some 149) 27 7344127 ?ve11 ?ae11 ?ye11 ?ze11 ?re11
   case ye11=>intro w AB;go_simp;try with_reducible rfl
   case ze11=>simp only[Act.put,C5,C6,C7];exact rfl
   refine tkg AA.out 12 (some 150) 27 7348223 (.bool true) ?ae12 ?ye12 ?ze12 ?re12
   case ye12=>intro w AB;go_simp;try with_reducible rfl
   case ze12=>simp only[Act.put,C5,C6,C7];exact rfl
   refine tkg AA.out 13 (some 151) 27 7356415 ?ve13 ?ae13 ?ye13 ?ze13 ?re13
   case ye13=>intro w AB;go_simp;try with_reducible rfl
   case ze13=>simp only[Act.put,C5,C6,C7];exact rfl
   refine tku AA.out 14 (some 152) 27 7372799 ?ae14 ?ze14 ?re14
   case ze14=>simp only[Act.put,C5,C6,C7];exact rfl
   refine tku AA.out 15 (some 153) 27 7405567 ?ae15 ?ze15 ?re15
   case ze15=>simp only[Act.put,C5,C6,C7];exact rfl
   refine tku AA.out 16 (some 154) 27 7471103 ?ae16 ?ze16 ?re16
   case ze16=>simp only[Act.put,C5,C6,C7];exact rfl
   refine tkg AA.out 17 (some 155) 27 7602175 ?ve17 ?ae17 ?ye17 ?ze17 ?re17
   case ye17=>intro w AB;go_simp;try with_reducible rfl
   case ze17=>simp only[Act.put,C5,C6,C7];exact rfl
   refine tk AA.out 18 (some 156) 27 7864319 ?ve18 ?ae18 ?ye18 ?ze18 ?re18
   case ye18=>intro w AB;go_simp;try with_reducible rfl
   case ze18=>simp only[Act.put,C5,C6,C7];exact rfl
   refine rdy AA.out 19 27 8388607 (λK hK=> ?_);go_simp
   go_at_call 55
   refine(K6 _ _).mono ?_;rintro e ux ⟨rfl,rfl⟩;refine hK.out _ _ AE.out.S (λhHeld=> ?_);clear hK K;try simp only[Act.put,C5,C6,C7]
   refine rdy AA.out 23 27 16777215 (λK hK=> ?_);go_simp
   go_at_call 60
   refine(W2 h.ms h.mn f _).mono ?_;rintro e u1 ⟨x1,rfl,AJ,AQ,AM⟩;have AD:=A0 (AE.out.below AJ);have AU:=A0 AQ;have AS:=A0 AM;refine hK.out _ _ AD.out.S (λhHeld=> ?_);clear hK K AJ AQ AM;try simp only[Act.put,C5,C6,C7]
   refine rdy AA.out 24 27 33554431 (λK hK=> ?_);go_simp
   refine hK.out _ _ (AD.out.below ((Below.refl _ _).alloc (Nat.le_refl _) _)).S (λhHeld=> ?_);clear hK K;try simp only[Act.put,C5,C6,C7]
   refine rdy AA.out 25 27 67108863 (λK hK=> ?_);go_simp
   go_at_call 57
   refine(M8 [v,J7 true,x1] u1.heap.size 3 _ (O5 u1 [.int .i64 (v),.int .i64 (J7 true),.int .i64 (x1)] 3) ?_ (by simp)).mono ?_
   ·intro x hx
    simp only[List.mem_cons,List.not_mem_nil,or_false] at hx;rcases hx with rfl|rfl|rfl
    ·exact HV.out
    ·exact L9 _
    ·exact AU.out
   rintro e u9 ⟨v2,rfl,AL,AP,AO⟩;have AH:=A0 (AD.out.alloc _ AL);have AT:=A0 AP;have AG:=A0 AO;refine hK.out _ _ AH.out.S (λhHeld=> ?_);clear hK K AL AP AO;try simp only[Act.put,C5,C6,C7]
   refine tk AA.out 26 (some 5) 27 134217727 ?ve26 ?ae26 ?ye26 ?ze26 ?re26
   case ye26=>intro w AB;go_simp;try with_reducible rfl
   case ze26=>simp only[Act.put,C5,C6,C7];exact rfl
   refine wpAnyH_done (by rw[AA.out];kernel_rfl) ?_ _;refine AR.out _ _ ?_;exact A7Y f h L hb v2 v4 _ w0 AH.out AT.out P (λe k=>HP.out (AG.out e v (by simp)) ⟨⟨AS.out (AG.out e x1 (by simp)),λe1=>absurd e1 h1⟩,k⟩)
theorem B6w (f:Int) (h:IH) (L:List (List UInt8×List UInt8)) (hb:Nat) (v v4:Int) (w w0:World) (K:CS hb h L w0 w) (hv:tri v) (P:Prop) (hP:v=1->B5E h L f->P):
  Code.wp Tryz.prog B4P (bodyPost Tryz.prog Tryz.f27 (P9 P w0)) ⟨(c0::.int .i64 f::.pointer (some ⟨hb,0,none⟩)::c3::.int .i64 v4::.int .i64 v::c6::c7::c8::c9::gG::gH::gI::gJ::gK::gL::gM::gN::gO::gP::c20::c21::gQ::gR::gT::gU::gW::gX::gY::gZ::hJ::hZ::iA::iB::iC::iD::iE::c37::iF::iG::iH::iI::iJ::iK::iL::iM::c46::iN::iO::iP::iQ::c51::iR::c53::iS::iT::iU::iV::iW::iX::iY::iZ::jA::jB::jC::jD::jE::jF::jG::jH::jI::jJ::jK::jL::jM::c75::jN::jO::jP::jQ::c80::jR::jS::jT::jU::c85::jV::jW::jX::jY::jZ::kA::kB::kC::kD::kE::kF::kG::kH::kI::aA::aB::aC::aD::aF::aG::aH::aI::aJ::aK::aL::aM::aN::aO::aP::aQ::aR::aS::aT::aU::aV::aW::aX::aY::aZ::bB::bC::c127::bD::bE::bF::bG::bH::bI::bJ::bK::bL::bM::bN::bO::bP::bQ::bR::c143::bS::c145::bT::bU::bV::bW::bX::bY::bZ::cA::cB::cC::cD::cE::cF::cG::cH::cI::cJ::cL::cM::cO::cP::c167::c168::cQ::cS::c171::cT::c173::cU::c175::cV::cW::cX::cY::cZ::dA::dB::dC::dD::dE::dF::dG::dH::dI::dJ::dL::dM::dO::dP::dQ::dR::dS::dT::dU::dV::dW::dX::dY::dZ::eA::eC::eD::eH::eJ::c210::eK::c212::c213::eO::eR::eS::eV::eW::eX::eY::eZ::fA::fB::fC::fD::fE::fH::fI::fJ::fK::fL::c232::c233::fN::fO::fP::fQ::fR::fS::fT::fU::fV::fW::fX::fY::fZ::gA::gB::gC::gD::gE::gF::[]).toArray,[]⟩ w:=by
 conv=>arg 2;whnf
 have HK:=A0 K;have HP:=A0 hP;have HV:=A0 hv;clear K hP hv;refine wp_seq_k (λK1 AM=> ?_);have Ag:=A0 AM;clear AM;refine J1 (S:=λw'=>SB hb h w') (n:=24) (l0:=S0 24 0) (by kernel_rfl) rfl (by kernel_rfl) HK.out.S (λAu AA hHeld=> ?_);have Am:Hid (CS hb h L w0 w.drew):=A0 (HK.out.below ((Below.refl _ w).drew));clear HK;generalize w.drew=u0 at*;refine tk AA.out 0 (some 115) 24 1 ?vq0 ?aq0 ?yq0 ?zq0 ?rq0
 case yq0=>intro w AB;go_simp;try with_reducible rfl
 case zq0=>simp only[Act.put,C5,C6,C7];exact rfl
 refine tk AA.out 1 (some 116) 24 3 ?vq1 ?aq1 ?yq1 ?zq1 ?rq1
 case yq1=>intro w AB;go_simp;try with_reducible rfl
 case zq1=>simp only[Act.put,C5,C6,C7];exact rfl
 refine tkl AA.out 2 (some 117) 24 7 ⟨hb,4,none⟩ (.int .i64 h.mode) ?aq2 (λw' AC=>ld2 (AC.cell 4 (.int .i64 h.mode) rfl)) ?zq2 ?rq2
 case zq2=>simp only[Act.put,C5,C6,C7];exact rfl
 refine tk AA.out 3 (some 118) 24 15 ?vq3 ?aq3 ?yq3 ?zq3 ?rq3
 case yq3=>intro w AB;go_simp;try with_reducible rfl
 case zq3=>simp only[Act.put,C5,C6,C7];exact rfl
 refine tk AA.out 5 (some 120) 24 47 ?vq5 ?aq5 ?yq5 ?zq5 ?rq5
 case yq5=>intro w AB;go_simp;try with_reducible rfl
 case zq5=>simp only[Act.put,C5,C6,C7];exact rfl
 refine tkl AA.out 6 (some 121) 24 111 ⟨hb,5,none⟩ (.int .i64 h.uid) ?aq6 (λw' AC=>ld2 (AC.cell 5 (.int .i64 h.uid) rfl)) ?zq6 ?rq6
 case zq6=>simp only[Act.put,C5,C6,C7];exact rfl
 refine tk AA.out 7 (some 122) 24 239 ?vq7 ?aq7 ?yq7 ?zq7 ?rq7
 case yq7=>intro w AB;go_simp;try with_reducible rfl
 case zq7=>simp only[Act.put,C5,C6,C7];exact rfl
 refine tk AA.out 9 (some 124) 24 751 ?vq9 ?aq9 ?yq9 ?zq9 ?rq9
 case yq9=>intro w AB;go_simp;try with_reducible rfl
 case zq9=>simp only[Act.put,C5,C6,C7];exact rfl
 refine tkl AA.out 10 (some 125) 24 1775 ⟨hb,6,none⟩ (.int .i64 h.gid) ?aq10 (λw' AC=>ld2 (AC.cell 6 (.int .i64 h.gid) rfl)) ?zq10 ?rq10
 case zq10=>simp only[Act.put,C5,C6,C7];exact rfl
 refine tk AA.out 11 (some 126) 24 3823 ?vq11 ?aq11 ?yq11 ?zq11 ?rq11
 case yq11=>intro w AB;go_simp;try with_reducible rfl
 case zq11=>simp only[Act.put,C5,C6,C7];exact rfl
 refine tk AA.out 13 (some 128) 24 12015 ?vq13 ?aq13 ?yq13 ?zq13 ?rq13
 case yq13=>intro w AB;go_simp;try with_reducible rfl
 case zq13=>simp only[Act.put,C5,C6,C7];exact rfl
 refine tkl AA.out 14 (some 129) 24 28399 ⟨hb,17,none⟩ (.int .i64 h.maj) ?aq14 (λw' AC=>ld2 (AC.cell 17 (.int .i64 h.maj) rfl)) ?zq14 ?rq14
 case zq14=>simp only[Act.put,C5,C6,C7];exact rfl
 refine tk AA.out 15 (some 130) 24 61167 ?vq15 ?aq15 ?yq15 ?zq15 ?rq15
 case yq15=>intro w AB;go_simp;try with_reducible rfl
 case zq15=>simp only[Act.put,C5,C6,C7];exact rfl
 refine tk AA.out 17 (some 132) 24 192239 ?vq17 ?aq17 ?yq17 ?zq17 ?rq17
 case yq17=>intro w AB;go_simp;try with_reducible rfl
 case zq17=>simp only[Act.put,C5,C6,C7];exact rfl
 refine tkl AA.out 18 (some 133) 24 454383 ⟨hb,18,none⟩ (.int .i64 h.mnr) ?aq18 (λw' AC=>ld2 (AC.cell 18 (.int .i64 h.mnr) rfl)) ?zq18 ?rq18
 case zq18=>simp only[Act.put,C5,C6,C7];exact rfl
 refine tk AA.out 19 (some 134) 24 978671 ?vq19 ?aq19 ?yq19 ?zq19 ?rq19
 case yq19=>intro w AB;go_simp;try with_reducible rfl
 case zq19=>simp only[Act.put,C5,C6,C7];exact rfl
 refine rdy AA.out 4 24 978687 (λK hK=> ?_);go_simp
 go_at_call 59
 refine(A1B h.mode f false _).mono ?_;rintro e u1 ⟨x1,rfl,AO,Ab,AU⟩;have AH:=A0 (Am.out.below AO);have Ao:=A0 Ab;have Ah:=A0 AU;refine hK.out _ _ AH.out.S (λhHeld=> ?_);clear hK K AO Ab AU;try simp only[Act.put,C5,C6,C7]
 refine rdy AA.out 8 24 978943 (λK hK=> ?_);go_simp
 go_at_call 59
 refine(A1B h.uid f true _).mono ?_;rintro e u2 ⟨x2,rfl,AP,Ac,AV⟩;have AI:=A0 (AH.out.below AP);have Ap:=A0 Ac;have Ai:=A0 AV;refine hK.out _ _ AI.out.S (λhHeld=> ?_);clear hK K AP Ac AV;try simp only[Act.put,C5,C6,C7]
 refine rdy AA.out 12 24 983039 (λK hK=> ?_);go_simp
 go_at_call 59
 refine(A1B h.gid f true _).mono ?_;rintro e u3 ⟨x3,rfl,AQ,Ad,AW⟩;have AJ:=A0 (AI.out.below AQ);have Aq:=A0 Ad;have Aj:=A0 AW;refine hK.out _ _ AJ.out.S (λhHeld=> ?_);clear hK K AQ Ad AW;try simp only[Act.put,C5,C6,C7]
 refine rdy AA.out 16 24 1048575 (λK hK=> ?_);go_simp
 go_at_call 59
 refine(A1B h.maj f false _).mono ?_;rintro e u4 ⟨x4,rfl,AR,Ae,AX⟩;have AL:=A0 (AJ.out.below AR);have Ar:=A0 Ae;have Ak:=A0 AX;refine hK.out _ _ AL.out.S (λhHeld=> ?_);clear hK K AR Ae AX;try simp only[Act.put,C5,C6,C7]
 refine rdy AA.out 20 24 2097151 (λK hK=> ?_);go_simp
 go_at_call 59
 refine(A1B h.mnr f false _).mono ?_;rintro e u5 ⟨x5,rfl,AS,Af,AY⟩;have AE:=A0 (AL.out.below AS);have As:=A0 Af;have Al:=A0 AY;refine hK.out _ _ AE.out.S (λhHeld=> ?_);clear hK K AS Af AY;try simp only[Act.put,C5,C6,C7]
 refine rdy AA.out 21 24 4194303 (λK hK=> ?_);go_simp
 refine hK.out _ _ (AE.out.below ((Below.refl _ _).alloc (Nat.le_refl _) _)).S (λhHeld=> ?_);clear hK K;try simp only[Act.put,C5,C6,C7]
 refine rdy AA.out 22 24 8388607 (λK hK=> ?_);go_simp
 go_at_call 57
 refine(M8 [v,x1,x2,x3,x4,x5] u5.heap.size 6 _ (O5 u5 [.int .i64 (v),.int .i64 (x1),.int .i64 (x2),.int .i64 (x3),.int .i64 (x4),.int .i64 (x5)] 3) ?_ (by simp)).mono ?_
 ·intro x hx
  simp only[List.mem_cons,List.not_mem_nil,or_false] at hx;rcases hx with rfl|rfl|rfl|rfl|rfl|rfl
  ·exact HV.out
  ·exact Ao.out
  ·exact Ap.out
  ·exact Aq.out
  ·exact Ar.out
  ·exact As.out
 rintro e u9 ⟨v2,rfl,AT,Aa,AZ⟩;have AG:=A0 (AE.out.alloc _ AT);have An:=A0 Aa;have AD:=A0 AZ;refine hK.out _ _ AG.out.S (λhHeld=> ?_);clear hK K AT Aa AZ;try simp only[Act.put,C5,C6,C7]
 refine tk AA.out 23 (some 5) 24 16777215 ?vq23 ?aq23 ?yq23 ?zq23 ?rq23
 case yq23=>intro w AB;go_simp;try with_reducible rfl
 case zq23=>simp only[Act.put,C5,C6,C7];exact rfl
 refine wpAnyH_done (by rw[AA.out];kernel_rfl) ?_ _;refine Ag.out _ _ ?_;exact B6x f h L hb v2 v4 _ w0 AG.out An.out P (λe k=>HP.out (AD.out e v (by simp)) ⟨⟨Ah.out (AD.out e x1 (by simp)),Ai.out (AD.out e x2 (by simp)),Aj.out (AD.out e x3 (by simp)),Ak.out (AD.out e x4 (by simp)),Al.out (AD.out e x5 (by simp))⟩,k⟩)
theorem A9z (f:Int) (h:IH) (L:List (List UInt8×List UInt8)) (hb:Nat) (v v4:Int) (w w0:World) (K:CS hb h L w0 w) (hv:tri v) (P:Prop) (v6:Int) (Ak:tri v6) (Ah:h.link.length<4611686018427387904) (Ai:h.user.length<4611686018427387904) (Aj:h.group.length<4611686018427387904) (hP:v=1->B7p h L f v6->P):
  Code.wp Tryz.prog B4O (bodyPost Tryz.prog Tryz.f27 (P9 P w0)) ⟨(c0::.int .i64 f::.pointer (some ⟨hb,0,none⟩)::c3::.int .i64 v4::.int .i64 v::.int .i64 v6::c7::c8::c9::gG::gH::gI::gJ::gK::gL::gM::gN::gO::gP::c20::c21::gQ::gR::gT::gU::gW::gX::gY::gZ::hJ::hZ::iA::iB::iC::iD::iE::c37::iF::iG::iH::iI::iJ::iK::iL::iM::c46::iN::iO::iP::iQ::c51::iR::c53::iS::iT::iU::iV::iW::iX::iY::iZ::jA::jB::jC::jD::jE::jF::jG::jH::jI::jJ::jK::jL::jM::c75::jN::jO::jP::jQ::c80::jR::jS::jT::jU::c85::jV::jW::jX::jY::jZ::kA::kB::kC::kD::kE::kF::kG::kH::kI::aA::aB::aC::aD::aF::aG::aH::aI::aJ::aK::aL::aM::aN::aO::aP::aQ::aR::aS::aT::aU::aV::aW::aX::aY::aZ::bB::bC::c127::bD::bE::bF::bG::bH::bI::bJ::bK::bL::bM::bN::bO::bP::bQ::bR::c143::bS::c145::bT::bU::bV::bW::bX::bY::bZ::cA::cB::cC::cD::cE::cF::cG::cH::cI::cJ::cL::cM::cO::cP::c167::c168::cQ::cS::c171::cT::c173::cU::c175::cV::cW::cX::cY::cZ::dA::dB::dC::dD::dE::dF::dG::dH::dI::dJ::dL::dM::dO::dP::dQ::dR::dS::dT::dU::dV::dW::dX::dY::dZ::eA::eC::eD::eH::eJ::c210::eK::c212::c213::eO::eR::eS::eV::eW::eX::eY::eZ::fA::fB::fC::fD::fE::fH::fI::fJ::fK::fL::c232::c233::fN::fO::fP::fQ::fR::fS::fT::fU::fV::fW::fX::fY::fZ::gA::gB::gC::gD::gE::gF::[]).toArray,[]⟩ w:=by
 conv=>arg 2;whnf
 have HK:=A0 K;have HP:=A0 hP;have HV:=A0 hv;clear K hP hv;refine wp_seq_k (λK1 AJ=> ?_);have AY:=A0 AJ;clear AJ;refine J1 (S:=λw'=>SB hb h w') (n:=17) (l0:=S0 17 0) (by kernel_rfl) rfl (by kernel_rfl) HK.out.S (λAl AA hHeld=> ?_);have Ac:Hid (CS hb h L w0 w.drew):=A0 (HK.out.below ((Below.refl _ w).drew));clear HK;generalize w.drew=u0 at*;refine tk AA.out 0 (some 99) 17 1 ?vq0 ?aq0 ?yq0 ?zq0 ?rq0
 case yq0=>intro w AB;go_simp;try with_reducible rfl
 case zq0=>simp only[Act.put,C5,C6,C7];exact rfl
 refine tk AA.out 1 (some 100) 17 3 ?vq1 ?aq1 ?yq1 ?zq1 ?rq1
 case yq1=>intro w AB;go_simp;try with_reducible rfl
 case zq1=>simp only[Act.put,C5,C6,C7];exact rfl
 refine tk AA.out 2 (some 101) 17 7 ?vq2 ?aq2 ?yq2 ?zq2 ?rq2
 case yq2=>intro w AB;go_simp;try with_reducible rfl
 case zq2=>simp only[Act.put,C5,C6,C7];exact rfl
 refine tkl AA.out 3 (some 102) 17 15 ⟨hb,2,none⟩ (str h.link) ?aq3 (λw' AD=>ld9 (AD.cell 2 (str h.link) rfl)) ?zq3 ?rq3
 case zq3=>simp only[Act.put,C5,C6,C7];exact rfl
 refine tk AA.out 4 (some 103) 17 31 ?vq4 ?aq4 ?yq4 ?zq4 ?rq4
 case yq4=>intro w AB;go_simp;try with_reducible rfl
 case zq4=>simp only[Act.put,C5,C6,C7];exact rfl
 refine tk AA.out 6 (some 105) 17 95 ?vq6 ?aq6 ?yq6 ?zq6 ?rq6
 case yq6=>intro w AB;go_simp;try with_reducible rfl
 case zq6=>simp only[Act.put,C5,C6,C7];exact rfl
 refine tkl AA.out 7 (some 106) 17 223 ⟨hb,7,none⟩ (str h.user) ?aq7 (λw' AD=>ld9 (AD.cell 7 (str h.user) rfl)) ?zq7 ?rq7
 case zq7=>simp only[Act.put,C5,C6,C7];exact rfl
 refine tk AA.out 8 (some 107) 17 479 ?vq8 ?aq8 ?yq8 ?zq8 ?rq8
 case yq8=>intro w AB;go_simp;try with_reducible rfl
 case zq8=>simp only[Act.put,C5,C6,C7];exact rfl
 refine tk AA.out 10 (some 109) 17 1503 ?vq10 ?aq10 ?yq10 ?zq10 ?rq10
 case yq10=>intro w AB;go_simp;try with_reducible rfl
 case zq10=>simp only[Act.put,C5,C6,C7];exact rfl
 refine tkl AA.out 11 (some 110) 17 3551 ⟨hb,8,none⟩ (str h.group) ?aq11 (λw' AD=>ld9 (AD.cell 8 (str h.group) rfl)) ?zq11 ?rq11
 case zq11=>simp only[Act.put,C5,C6,C7];exact rfl
 refine tk AA.out 12 (some 111) 17 7647 ?vq12 ?aq12 ?yq12 ?zq12 ?rq12
 case yq12=>intro w AB;go_simp;try with_reducible rfl
 case zq12=>simp only[Act.put,C5,C6,C7];exact rfl
 refine rdy AA.out 5 17 7679 (λK hK=> ?_);go_simp
 go_at_call 54
 refine(A5O h.link 100 f _ Ah).mono ?_;rintro e u1 ⟨x1,rfl,AL,AV,AQ⟩;have AH:=A0 (Ac.out.below AL);have Ae:=A0 AV;have AZ:=A0 AQ;refine hK.out _ _ AH.out.S (λhHeld=> ?_);clear hK K AL AV AQ;try simp only[Act.put,C5,C6,C7]
 refine rdy AA.out 9 17 8191 (λK hK=> ?_);go_simp
 go_at_call 58
 refine(A6S h.user f _ Ai).mono ?_;rintro e u2 ⟨x2,rfl,AM,AW,AR⟩;have AI:=A0 (AH.out.below AM);have Af:=A0 AW;have Aa:=A0 AR;refine hK.out _ _ AI.out.S (λhHeld=> ?_);clear hK K AM AW AR;try simp only[Act.put,C5,C6,C7]
 refine rdy AA.out 13 17 16383 (λK hK=> ?_);go_simp
 go_at_call 58
 refine(A6S h.group f _ Aj).mono ?_;rintro e u3 ⟨x3,rfl,AO,AX,AS⟩;have AE:=A0 (AI.out.below AO);have Ag:=A0 AX;have Ab:=A0 AS;refine hK.out _ _ AE.out.S (λhHeld=> ?_);clear hK K AO AX AS;try simp only[Act.put,C5,C6,C7]
 refine rdy AA.out 14 17 32767 (λK hK=> ?_);go_simp
 refine hK.out _ _ (AE.out.below ((Below.refl _ _).alloc (Nat.le_refl _) _)).S (λhHeld=> ?_);clear hK K;try simp only[Act.put,C5,C6,C7]
 refine rdy AA.out 15 17 65535 (λK hK=> ?_);go_simp
 go_at_call 57
 refine(M8 [v,v6,x1,x2,x3] u3.heap.size 5 _ (O5 u3 [.int .i64 (v),.int .i64 (v6),.int .i64 (x1),.int .i64 (x2),.int .i64 (x3)] 3) ?_ (by simp)).mono ?_
 ·intro x hx
  simp only[List.mem_cons,List.not_mem_nil,or_false] at hx;rcases hx with rfl|rfl|rfl|rfl|rfl
  ·exact HV.out
  ·exact Ak
  ·exact Ae.out
  ·exact Af.out
  ·exact Ag.out
 rintro e u9 ⟨v2,rfl,AP,AU,AT⟩;have AG:=A0 (AE.out.alloc _ AP);have Ad:=A0 AU;have AC:=A0 AT;refine hK.out _ _ AG.out.S (λhHeld=> ?_);clear hK K AP AU AT;try simp only[Act.put,C5,C6,C7]
 refine tk AA.out 16 (some 5) 17 131071 ?vq16 ?aq16 ?yq16 ?zq16 ?rq16
 case yq16=>intro w AB;go_simp;try with_reducible rfl
 case zq16=>simp only[Act.put,C5,C6,C7];exact rfl
 refine wpAnyH_done (by rw[AA.out];kernel_rfl) ?_ _;refine AY.out _ _ ?_;exact B6w f h L hb v2 v4 _ w0 AG.out Ad.out P (λe k=>HP.out (AC.out e v (by simp)) ⟨⟨AC.out e v6 (by simp),AZ.out (AC.out e x1 (by simp)),Aa.out (AC.out e x2 (by simp)),Ab.out (AC.out e x3 (by simp))⟩,k⟩)
end Go.Proofs.YtkanmkcojlefbaaGreatDoor
