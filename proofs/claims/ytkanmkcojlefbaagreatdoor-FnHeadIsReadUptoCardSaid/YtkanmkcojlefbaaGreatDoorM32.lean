/-
  Part of the proof; holds the texts WHeadT.
-/
import Derived.Test.YtkanmkcojlefbaaGreatDoorM28
import Derived.Test.YtkanmkcojlefbaaGreatDoorM31
import Derived.Test.YtkanmkcojlefbaaGreatDoorM26
set_option maxHeartbeats 4000000
set_option maxRecDepth 100000
set_option linter.unusedSimpArgs false
set_option linter.unusedVariables false
namespace Go.Proofs.YtkanmkcojlefbaaGreatDoor
open Go.RowKit
noncomputable def B7W:Code:=I2 13 (Tryz.f30.body.getD .skip)
theorem TW.setErr {w:World} {tw b fw:Nat} {AC:Int} {AB AA:List Value} {AD:Value} (h:TW tw b fw AC AB AA AD w) (v:Value):TW tw b fw AC AB AA v (w.setCell ⟨tw,535,none⟩ v):=by
 have q:=B6 (i:=535) v h.1;rw[A0r _ _ _ _ _ _ h.2.1 h.2.2] at q;exact⟨q,h.2⟩
def A4O (f:Bool×Bool×Bool) (m:KV) (H:Hd) (AA:List UInt8):Prop:=
 (f.1=true/\∃B2,A7P H B2/\AA=B2.bytes)\/(f.1=false/\f.2.1=true/\∃B2 X,A5i H B2/\PX m X/\AA=X++B2.bytes)\/(f.1=false/\f.2.1=false/\∃B2 X Y,A6f H B2/\LX 76 H.name X/\LX 75 H.link Y/\AA=X++Y++B2.bytes)
def A9x (B tw b:Nat) (f:Bool×Bool×Bool) (m:KV) (H:Hd) (bs:List UInt8) (sz:Int) (w w':World):Prop:=
 ∃AB AD AC AA,A4O f m H AD/\W3 B b (bs++AD) w'/\TW tw b AB (E7 sz) AC (Lib.byteCells AA) .nilIface w'/\AA.length=512/\FW AB b sz w'/\w.heap.size<=AB/\AB<w'.heap.size/\Fr B [b,tw] w w'
structure HOk (H:Hd) (R:KV) (hasR:Bool) (f:Bool×Bool×Bool) (m:KV):Prop where
 inT:H.InT
 r0:R []=none
 ty:48<=H.typ/\H.typ<=55
 sl:T9 H.name=true->H.typ=49\/H.typ=50\/H.typ=53\/H.typ=55
 sz:D1 H.typ=true\/0<=H.size
 xa:H.xattr= .map none
 h0:hasR=false->∀k,R k=none
 h1:hasR=true->∃k,R k≠none
 fmt:H.fmt=0\/H.fmt=2\/H.fmt=4\/H.fmt=8
 fe:f=S8 ((H.st R).u&& !hasR) (H.st R).p ((H.st R).g&& !hasR) (H.st R).q H.fmt
 me:m=R3 (H.st R).m R H.typ
 up:f.1=true\/f.2.1=true\/f.2.2=true
 uf:f.1=true->A6B H
 gf:f.1=false->f.2.1=false->A5z H
 nl:H.name.length<=600000
 ll:H.link.length<=600000
 val:∀k v,m k=some v->F0 k v=true/\k.length<=1048576/\v.length<=1048576
 sum:∀L:List (List UInt8×List UInt8),(L.map (·.1)).Nodup->(∀p∈L,m p.1=some p.2)->(D7 L).length<=1048576
theorem B7A (u p g:Bool) (h:u=true\/p=true\/g=true):fm u p g≠0:=by
 cases u<;>cases p<;>cases g<;>first|decide|simp at h
theorem B4l (G0:Nat) (E:Nat->Addr) (B tw b fw:Nat) (H:Hd) (R0:KV) (AQ:Bool) (f:Bool×Bool×Bool) (m:KV) (AV bs:List UInt8) (w:World) (h:WS G0 E B tw b fw 0 H AV bs .nilIface w) (AA:HOk H R0 AQ f m) (hr:J4 w H.recs R0 w.heap.size) (sz:Int) (Ab:sz=if D1 H.typ then 0 else H.size) (Aq:bs.length+8388608<=140737488355328)
  (R:Ending->World->Prop) (hR:∀w',A9x B tw b f m H bs sz w w'->R (.returned .nilIface) w') {c1 c2 c3 c4 c5 c6 c7 c8 c9 aY aZ bB bC bD bE bF bG bH bI c20 c21 bJ bK bL bM bN bO bP bQ bR bS bT bU bV bW bX c37 bY bZ cA cB cC cD cE cF c46 cG cH cI cJ c51 cL c53 cM cO cP cQ cS cT cU cV cW cX cY cZ dA dB dC dD dE dF dG dH dI c75 dJ dL dM dO c80 dP dQ dR dS c85 dT dU dV dW dX dY dZ eA eC eD eH eJ eK eO aB aC aD aF aG aH aI aJ aK aL aM aN aO aP aQ aR aS aT aU aV aW aX:Value}:
  Code.wp Tryz.prog B7W (bodyPost Tryz.prog Tryz.f30 R) ⟨(.pointer (some ⟨tw,0,none⟩)::c1::c2::c3::c4::c5::c6::c7::c8::c9::aY::aZ::bB::bC::bD::bE::bF::bG::bH::bI::c20::c21::bJ::bK::bL::bM::bN::bO::bP::bQ::bR::bS::bT::bU::bV::bW::bX::c37::bY::bZ::cA::cB::cC::cD::cE::cF::c46::cG::cH::cI::cJ::c51::cL::c53::cM::cO::cP::cQ::cS::cT::cU::cV::cW::cX::cY::cZ::dA::dB::dC::dD::dE::dF::dG::dH::dI::c75::dJ::dL::dM::dO::c80::dP::dQ::dR::dS::c85::dT::dU::dV::dW::dX::dY::dZ::eA::eC::eD::eH::eJ::eK::eO::aB::aC::aD::aF::aG::aH::aI::aJ::aK::aL::aM::aN::aO::aP::aQ::aR::aS::aT::aU::aV::aW::aX::[]).toArray,[]⟩ w:=by
 conv=>arg 2;whnf
 have Ah:=B0E w tw 3 H (B1e h.W)
 have AT:0<=sz:=by
  have:=AA.sz;rw[Ab];split
  ·omega
  ·rename_i hn
   rcases this with h|h
   ·exact absurd h hn
   ·exact h
 have AZ:=B3r G0 E H R0 AA.inT AA.r0 w h.gl hr AA.ty AA.sl AA.sz AA.xa (λk v hk=>by
   have hm:=AA.me;have:=AA.val k v (by rw[hm];exact hk);exact⟨this.1,by omega,by omega⟩) AQ AA.h0 AA.h1 AA.fmt (by
   have e:=AA.fe;rw[<-e];exact B7A _ _ _ AA.up)
 rw[<-AA.fe,<-AA.me] at AZ;have Ac:=A0 AZ;have HH:=A0 h;have AC:=A0 AA;have AX:=A0 Ab;have AP:=A0 AT;have AW:=A0 hR;clear AZ h AA hr Ab AT hR;go_wp2_with (first|(refine D3 rfl 130 _ rfl ⟨tw,3,none⟩ rfl _ Ah ?_)|fail)
 refine Ac.out.mono ?_;rintro e w1 ⟨mb,n,rfl,hm,hn,Ar,Ao,Aa⟩;clear Ah;have Ae:=HH.out.below Aa;have AY:=A0 Ae;have HM:=A0 hm;have AO:=A0 Aa;clear Ae hm Aa Ac Ao Ar;have Ad:=AC.out.up;have Am:=A0 Ad;clear Ad;obtain⟨u,p,g⟩:=f;cases hu:u
 ·subst hu
  cases hp:p
  ·subst hp
   have Ap:g=true:=by rcases Am.out with h|h|h;cases h;cases h;exact h
   subst Ap;have AH:Calls Tryz.prog 66 #[.int .i64 (fm false false true),.int .i64 2] w1 (C4 w1 (.bool false)):=O8 w1 _ 2 (by kernel_rfl);have AS:Calls Tryz.prog 66 #[.int .i64 (fm false false true),.int .i64 4] w1 (C4 w1 (.bool false)):=O8 w1 _ 4 (by kernel_rfl);have Ag:Calls Tryz.prog 66 #[.int .i64 (fm false false true),.int .i64 8] w1 (C4 w1 (.bool true)):=A3D w1 _ 8 (by kernel_rfl);have Af:=B3d G0 E B tw b fw 0 H AV bs w1 AY.out (by omega) AC.out.inT (AC.out.gf rfl rfl) AC.out.nl AC.out.ll sz AX.out AP.out (by omega);have Ak:=A0 Af;clear Af;generalize fm false false true=fv at*;go_wp2_with (first|(go_at_call 66;first|(refine AH.mono ?_;rintro e wx ⟨rfl,rfl⟩)|(refine AS.mono ?_;rintro e wx ⟨rfl,rfl⟩)|(refine Ag.mono ?_;rintro e wx ⟨rfl,rfl⟩)))
   refine Ak.out.mono ?_;rintro e w2 ⟨rfl,AE,B2,X,Y,r1,r2,q2,r3,r4,r5,r6,r7,r8⟩;obtain⟨-,-,aA,-,AU⟩:=V7 r4.2.1 r4.2.2 r4.1;have AJ:=r4.setErr .nilIface;have AI:=r3.setCell (p:=⟨tw,535,none⟩) r4.1 (by decide) (by decide) .nilIface;have AR:AE≠tw:=by rintro rfl;have:=r4.1;rw[r5] at this;injection this with this;injection this with _ h2 _;exact absurd h2 (by decide)
   have AL:FW AE b sz (w2.setCell ⟨tw,535,none⟩ .nilIface):=(C0 _ AR).trans r5;have AM:=r8.setCell (p:=⟨tw,535,none⟩) (.inl (by simp)) .nilIface;have AB:=AW.out (w2.setCell ⟨tw,535,none⟩ .nilIface) ⟨AE,X++Y++B2.bytes,_,B2.bytes,.inr (.inr ⟨rfl,rfl,B2,X,Y,r1,r2,q2,rfl⟩),by simpa[List.append_assoc] using AI,AJ,r1.ok.len,AL,Nat.le_trans AO.out.size r6,by simpa[World.setCell] using r7,((Fr.of_below AO.out w.heap.size [b,tw]).wide HH.out.Bw (λk hk _=>hk)).trans AM⟩;have AD:=A0 AB;clear AB r1 r2 q2 r3 r4 r5 r6 r7 r8 AJ AI AL AM AH AS Ag;go_wp2_with fail
   exact AD.out
  ·subst hp
   have AH:Calls Tryz.prog 66 #[.int .i64 (fm false true g),.int .i64 2] w1 (C4 w1 (.bool false)):=by
    have:=A5o w1 false true g true false false;rw[Bool.false_and,Bool.and_false,Bool.and_false] at this;exact this
   have AS:Calls Tryz.prog 66 #[.int .i64 (fm false true g),.int .i64 4] w1 (C4 w1 (.bool true)):=by
    have:=A5o w1 false true g false true false;rw[Bool.false_and,Bool.and_true,Bool.and_false] at this;exact this
   have AG:H.typ≠103:=by have:=AC.out.ty;omega
   have Ai:=B3e G0 E B tw b fw 0 mb n H AV bs m w1 AY.out (by omega) AC.out.inT.toIn AC.out.nl AG HM.out hn AC.out.val AC.out.sum sz AX.out AP.out (by omega);have Al:=A0 Ai;clear Ai AG;generalize fm false true g=fv at*;go_wp2_with (first|(go_at_call 66;first|(refine AH.mono ?_;rintro e wx ⟨rfl,rfl⟩)|(refine AS.mono ?_;rintro e wx ⟨rfl,rfl⟩)))
   refine Al.out.mono ?_;rintro e w2 ⟨rfl,AE,B2,X,r1,r2,r3,r4,r5,r6,r7,r8⟩;obtain⟨-,-,aA,-,AU⟩:=V7 r4.2.1 r4.2.2 r4.1;have AJ:=r4.setErr .nilIface;have AI:=r3.setCell (p:=⟨tw,535,none⟩) r4.1 (by decide) (by decide) .nilIface;have AR:AE≠tw:=by rintro rfl;have:=r4.1;rw[r5] at this;injection this with this;injection this with _ h2 _;exact absurd h2 (by decide)
   have AL:FW AE b sz (w2.setCell ⟨tw,535,none⟩ .nilIface):=(C0 _ AR).trans r5;have AM:=r8.setCell (p:=⟨tw,535,none⟩) (.inl (by simp)) .nilIface;have AB:=AW.out (w2.setCell ⟨tw,535,none⟩ .nilIface) ⟨AE,X++B2.bytes,_,B2.bytes,.inr (.inl ⟨rfl,rfl,B2,X,r1,r2,rfl⟩),by simpa[List.append_assoc] using AI,AJ,r1.ok.len,AL,Nat.le_trans AO.out.size r6,by simpa[World.setCell] using r7,((Fr.of_below AO.out w.heap.size [b,tw]).wide HH.out.Bw (λk hk _=>hk)).trans AM⟩;have AD:=A0 AB;clear AB r1 r2 r3 r4 r5 r6 r7 r8 AJ AI AL AM AH AS;go_wp2_with fail
   exact AD.out
 ·subst hu
  have AH:Calls Tryz.prog 66 #[.int .i64 (fm true p g),.int .i64 2] w1 (C4 w1 (.bool true)):=by
   have:=A5o w1 true p g true false false;rw[Bool.true_and,Bool.and_false,Bool.and_false] at this;exact this
  have Aj:=A9n G0 E B tw b fw 0 H AV bs w1 AY.out (by omega) AC.out.inT.toIn (AC.out.uf rfl) sz AX.out (by omega);have An:=A0 Aj;clear Aj;generalize fm true p g=fv at*;go_wp2_with (first|(go_at_call 66;refine AH.mono ?_;rintro e wx ⟨rfl,rfl⟩))
  refine An.out.mono ?_;rintro e w2 ⟨rfl,AE,B2,r1,r3,r4,r5,r6,r7,r8⟩;obtain⟨-,-,aA,-,AU⟩:=V7 r4.2.1 r4.2.2 r4.1;have AJ:=r4.setErr .nilIface;have AI:=r3.setCell (p:=⟨tw,535,none⟩) r4.1 (by decide) (by decide) .nilIface;have AR:AE≠tw:=by rintro rfl;have:=r4.1;rw[r5] at this;injection this with this;injection this with _ h2 _;exact absurd h2 (by decide)
  have AL:FW AE b sz (w2.setCell ⟨tw,535,none⟩ .nilIface):=(C0 _ AR).trans r5;have AM:=r8.setCell (p:=⟨tw,535,none⟩) (.inl (by simp)) .nilIface;have AB:=AW.out (w2.setCell ⟨tw,535,none⟩ .nilIface) ⟨AE,B2.bytes,_,B2.bytes,.inl ⟨rfl,B2,r1,rfl⟩,by simpa[List.append_assoc] using AI,AJ,r1.ok.len,AL,Nat.le_trans AO.out.size r6,by simpa[World.setCell] using r7,((Fr.of_below AO.out w.heap.size [b,tw]).wide HH.out.Bw (λk hk _=>hk)).trans AM⟩;have AD:=A0 AB;clear AB r1 r3 r4 r5 r6 r7 r8 AJ AI AL AM AH;go_wp2_with fail
  exact AD.out
end Go.Proofs.YtkanmkcojlefbaaGreatDoor
