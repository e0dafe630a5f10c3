/-
  Part of the proof; holds the texts WHeadT.
-/
import Derived.Test.YtkanmkcojlefbaaGreatDoorM18
import Derived.Test.YtkanmkcojlefbaaGreatDoorM21
set_option maxHeartbeats 4000000
set_option maxRecDepth 100000
set_option linter.unusedSimpArgs false
set_option linter.unusedVariables false
namespace Go.Proofs.YtkanmkcojlefbaaGreatDoor
open Go.RowKit
noncomputable def B7W:Code:=I2 13 (Tryz.f30.body.getD .skip)
theorem TW.setErr {w:World} {tw b fw:Nat} {AC:Int} {AB AA:List Value} {AD:Value} (h:TW tw b fw AC AB AA AD w) (v:Value):TW tw b fw AC AB AA v (w.setCell ⟨tw,535,none⟩ v):=by
 have q:=B6 (i:=535) v h.1;rw[A0r _ _ _ _ _ _ h.2.1 h.2.2] at q;exact⟨q,h.2⟩
def A4O (f:Bool×Bool×Bool) (m:KV) (H:Hd) (AA:List UInt8):Prop:=
 (f.1=true/\∃B2,A7P H B2/\AA=B2.bytes)\/(f.1=false/\f.2.1=true/\∃B2 X,A5i H B2/\PX m X/\AA=X++B2.bytes)\/(f.1=false/\f.2.1=false/\∃B2 X Y,A6f H B2/\LX 76 H.name X/\LX 75 H.link Y/\AA=X++Y++B2.bytes)
def C0x (f:Bool×Bool×Bool) (m:KV) (H:Hd) (sz:Int) (AA:List UInt8) (pd:Int):Prop:=(H.typ≠103/\A4O f m H AA/\pd=E7 sz)\/(H.typ=103/\∃n:Nat,pd=n/\GX m AA n)
def A9x (B tw b:Nat) (f:Bool×Bool×Bool) (m:KV) (H:Hd) (bs:List UInt8) (sz:Int) (w w':World):Prop:=
 ∃AB AD AC AA pd,C0x f m H sz AD pd/\W3 B b (bs++AD) w'/\TW tw b AB pd AC (Lib.byteCells AA) .nilIface w'/\AA.length=512/\FW AB b sz w'/\w.heap.size<=AB/\AB<w'.heap.size/\Fr B [b,tw] w w'
structure HOk (H:Hd) (R:KV) (hasR:Bool) (f:Bool×Bool×Bool) (m:KV):Prop where
 inT:H.InT
 r0:R []=none
 ty: (48<=H.typ/\H.typ<=55)\/(hasR=true/\H=gHd H.recs H.fmt)
 gf4:H.typ=103->f.1=false/\f.2.1=true/\∃k,m k≠none
 sl:T9 H.name=true->H.typ=49\/H.typ=50\/H.typ=53\/H.typ=55
 sz:D1 H.typ=true\/0<=H.size
 xa:H.xattr= .map none
 h0:hasR=false->∀k,R k=none
 h1:hasR=true->∃k,R k≠none
 fmt:H.fmt=0\/H.fmt=2\/H.fmt=4\/H.fmt=8
 fe:f=S8 ((H.st R).u&& !hasR) (H.st R).p ((H.st R).g&& !hasR) (H.st R).q H.fmt
 me:m=R3 (H.st R).m R H.typ
 up:f.1=true\/f.2.1=true\/f.2.2=true
 uf:f.1=true->A6B H
 gf:f.1=false->f.2.1=false->A5z H
 nl:H.name.length<=600000
 ll:H.link.length<=600000
 val:∀k v,m k=some v->F0 k v=true/\k.length<=1048576/\v.length<=1048576
 sum:∀L:List (List UInt8×List UInt8),(L.map (·.1)).Nodup->(∀p∈L,m p.1=some p.2)->(D7 L).length<=1048576
theorem B7A (u p g:Bool) (h:u=true\/p=true\/g=true):fm u p g≠0:=by
 cases u<;>cases p<;>cases g<;>first|decide|simp at h
theorem B4l (G0:Nat) (E:Nat->Addr) (B tw b fw:Nat) (H:Hd) (R0:KV) (AS:Bool) (f:Bool×Bool×Bool) (m:KV) (AX bs:List UInt8) (w:World) (h:WS G0 E B tw b fw 0 H AX bs .nilIface w) (AB:HOk H R0 AS f m) (hr:J4 w H.recs R0 w.heap.size) (sz:Int) (Ac:sz=if D1 H.typ then 0 else H.size) (Au:bs.length+8388608<=140737488355328)
  (R:Ending->World->Prop) (hR:∀w',A9x B tw b f m H bs sz w w'->R (.returned .nilIface) w') {c1 c2 c3 c4 c5 c6 c7 c8 c9 aZ bA bB bC bD bE bF bG bH bI c20 c21 bJ bK bL bM bN bO bP bQ bR bS bT bU bV bW bX c37 bY bZ cA cB cC cD cE cF c46 cG cH cI cJ c51 cL c53 cM cO cP cQ cS cT cU cV cW cX cY cZ dA dB dC dD dE dF dG dH dI c75 dJ dL dM dO c80 dP dQ dR dS c85 dT dU dV dW dX dY dZ eA eC eD eH eJ eK eO aB aD aF aG aH aI aJ aK aL aM aN aO aP aQ aR aS aT aU aV aW aX aY:Value}:
  Code.wp Tryz.prog B7W (bodyPost Tryz.prog Tryz.f30 R) ⟨(.pointer (some ⟨tw,0,none⟩)::c1::c2::c3::c4::c5::c6::c7::c8::c9::aZ::bA::bB::bC::bD::bE::bF::bG::bH::bI::c20::c21::bJ::bK::bL::bM::bN::bO::bP::bQ::bR::bS::bT::bU::bV::bW::bX::c37::bY::bZ::cA::cB::cC::cD::cE::cF::c46::cG::cH::cI::cJ::c51::cL::c53::cM::cO::cP::cQ::cS::cT::cU::cV::cW::cX::cY::cZ::dA::dB::dC::dD::dE::dF::dG::dH::dI::c75::dJ::dL::dM::dO::c80::dP::dQ::dR::dS::c85::dT::dU::dV::dW::dX::dY::dZ::eA::eC::eD::eH::eJ::eK::eO::aB::aD::aF::aG::aH::aI::aJ::aK::aL::aM::aN::aO::aP::aQ::aR::aS::aT::aU::aV::aW::aX::aY::[]).toArray,[]⟩ w:=by
 conv=>arg 2;whnf
 have Aj:=B0E w tw 3 H (B1e h.W)
 have AU:0<=sz:=by
  have:=AB.sz;rw[Ac];split
  ·omega
  ·rename_i hn
   rcases this with h|h
   ·exact absurd h hn
   ·exact h
 have Aa:=B3r G0 E H R0 AB.inT AB.r0 w h.gl hr AS AB.ty AB.sl AB.sz AB.xa (λk v hk=>by
   have hm:=AB.me;have:=AB.val k v (by rw[hm];exact hk);exact⟨this.1,by omega,by omega⟩) AB.h0 AB.h1 AB.fmt (by
   have e:=AB.fe;rw[<-e];exact B7A _ _ _ AB.up)
 rw[<-AB.fe,<-AB.me] at Aa;have Ad:=A0 Aa;have HH:=A0 h;have AC:=A0 AB;have AW:=A0 Ac;have AR:=A0 AU;have AV:=A0 hR;clear Aa h AB hr Ac AU hR;go_wp2_with (first|(refine D3 rfl 130 _ rfl ⟨tw,3,none⟩ rfl _ Aj ?_)|fail)
 refine Ad.out.mono ?_;rintro e w1 ⟨mb,n,rfl,hm,hn,Av,Ar,Ab⟩;clear Aj;have Af:=HH.out.below Ab;have AY:=A0 Af;have HM:=A0 hm;have AM:=A0 Ab;clear Af hm Ab Ad Ar Av;have Ae:=AC.out.up;have Ao:=A0 Ae;clear Ae;obtain⟨u,p,g⟩:=f;cases hu:u
 ·subst hu
  cases hp:p
  ·subst hp
   have As:g=true:=by rcases Ao.out with h|h|h;cases h;cases h;exact h
   subst As;have AL:Calls Tryz.prog 66 #[.int .i64 (fm false false true),.int .i64 2] w1 (C4 w1 (.bool false)):=O8 w1 _ 2 (by kernel_rfl);have AQ:Calls Tryz.prog 66 #[.int .i64 (fm false false true),.int .i64 4] w1 (C4 w1 (.bool false)):=O8 w1 _ 4 (by kernel_rfl);have Ai:Calls Tryz.prog 66 #[.int .i64 (fm false false true),.int .i64 8] w1 (C4 w1 (.bool true)):=A3D w1 _ 8 (by kernel_rfl);have Ah:=B3d G0 E B tw b fw 0 H AX bs w1 AY.out (by omega) AC.out.inT (AC.out.gf rfl rfl) AC.out.nl AC.out.ll sz AW.out AR.out (by omega);have Am:=A0 Ah;clear Ah;generalize fm false false true=fv at*;go_wp2_with (first|(go_at_call 66;first|(refine AL.mono ?_;rintro e wx ⟨rfl,rfl⟩)|(refine AQ.mono ?_;rintro e wx ⟨rfl,rfl⟩)|(refine Ai.mono ?_;rintro e wx ⟨rfl,rfl⟩)))
   have AT:H.typ≠103:=λe=>by have:=(AC.out.gf4 e).2.1;cases this
   refine Am.out.mono ?_;rintro e w2 ⟨rfl,AE,B2,X,Y,r1,r2,q2,r3,r4,r5,r6,r7,r8⟩;obtain⟨-,-,aA,-,AP⟩:=V7 r4.2.1 r4.2.2 r4.1;have AH:=r4.setErr .nilIface;have AG:=r3.setCell (p:=⟨tw,535,none⟩) r4.1 (by decide) (by decide) .nilIface;have AO:AE≠tw:=by rintro rfl;have:=r4.1;rw[r5] at this;injection this with this;injection this with _ h2 _;exact absurd h2 (by decide)
   have AI:FW AE b sz (w2.setCell ⟨tw,535,none⟩ .nilIface):=(C0 _ AO).trans r5;have AJ:=r8.setCell (p:=⟨tw,535,none⟩) (.inl (by simp)) .nilIface;have AA:=AV.out (w2.setCell ⟨tw,535,none⟩ .nilIface) ⟨AE,X++Y++B2.bytes,_,B2.bytes,_,.inl ⟨AT,.inr (.inr ⟨rfl,rfl,B2,X,Y,r1,r2,q2,rfl⟩),rfl⟩,by simpa[List.append_assoc] using AG,AH,r1.ok.len,AI,zP AM.out.size r6,by simpa[World.setCell] using r7,((Fr.of_below AM.out w.heap.size [b,tw]).wide HH.out.Bw (λk hk _=>hk)).trans AJ⟩;have AD:=A0 AA;clear AA r1 r2 q2 r3 r4 r5 r6 r7 r8 AH AG AI AJ AL AQ Ai;go_wp2_with fail
   exact AD.out
  ·subst hp
   have AL:Calls Tryz.prog 66 #[.int .i64 (fm false true g),.int .i64 2] w1 (C4 w1 (.bool false)):=by
    have:=A5o w1 false true g true false false;rw[Bool.false_and,Bool.and_false,Bool.and_false] at this;exact this
   have AQ:Calls Tryz.prog 66 #[.int .i64 (fm false true g),.int .i64 4] w1 (C4 w1 (.bool true)):=by
    have:=A5o w1 false true g false true false;rw[Bool.false_and,Bool.and_true,Bool.and_false] at this;exact this
   have Ag:H.typ=103->H.name=[]/\∃k,m k≠none:=λe=>⟨by
    rcases AC.out.ty with h|⟨-,h⟩
    ·omega
    ·rw[h];rfl,(AC.out.gf4 e).2.2⟩
   have Ak:=B3e G0 E B tw b fw 0 mb n H AX bs m w1 AY.out (by omega) AC.out.inT.toIn AC.out.nl Ag HM.out hn AC.out.val AC.out.sum sz AW.out AR.out (by omega);have An:=A0 Ak;clear Ak Ag;generalize fm false true g=fv at*;go_wp2_with (first|(go_at_call 66;first|(refine AL.mono ?_;rintro e wx ⟨rfl,rfl⟩)|(refine AQ.mono ?_;rintro e wx ⟨rfl,rfl⟩)))
   refine An.out.mono ?_;rintro e w2 (⟨AT,rfl,AE,B2,X,r1,r2,r3,r4,r5,r6,r7,r8⟩|⟨ht,rfl,AE,Aq,AZ,Aw,pd,r1,r3,r4,rl,r5,r6,r7,r8⟩)
   ·obtain⟨-,-,aA,-,AP⟩:=V7 r4.2.1 r4.2.2 r4.1
    have AH:=r4.setErr .nilIface;have AG:=r3.setCell (p:=⟨tw,535,none⟩) r4.1 (by decide) (by decide) .nilIface;have AO:AE≠tw:=by rintro rfl;have:=r4.1;rw[r5] at this;injection this with this;injection this with _ h2 _;exact absurd h2 (by decide)
    have AI:FW AE b sz (w2.setCell ⟨tw,535,none⟩ .nilIface):=(C0 _ AO).trans r5;have AJ:=r8.setCell (p:=⟨tw,535,none⟩) (.inl (by simp)) .nilIface;have AA:=AV.out (w2.setCell ⟨tw,535,none⟩ .nilIface) ⟨AE,X++B2.bytes,_,B2.bytes,_,.inl ⟨AT,.inr (.inl ⟨rfl,rfl,B2,X,r1,r2,rfl⟩),rfl⟩,by simpa[List.append_assoc] using AG,AH,r1.ok.len,AI,zP AM.out.size r6,by simpa[World.setCell] using r7,((Fr.of_below AM.out w.heap.size [b,tw]).wide HH.out.Bw (λk hk _=>hk)).trans AJ⟩;have AD:=A0 AA;clear AA r1 r2 r3 r4 r5 r6 r7 r8 AH AG AI AJ AL AQ;go_wp2_with fail
    exact AD.out
   ·obtain⟨-,-,aA,-,AP⟩:=V7 r4.2.1 r4.2.2 r4.1
    have AH:=r4.setErr .nilIface;have AG:=r3.setCell (p:=⟨tw,535,none⟩) r4.1 (by decide) (by decide) .nilIface;have AO:AE≠tw:=by rintro rfl;have:=r4.1;rw[r5] at this;injection this with this;injection this with _ h2 _;exact absurd h2 (by decide)
    have e0:sz=0:=by rw[AW.out,ht];have:=AC.out.ty;rcases this with h|⟨-,h⟩;omega;rw[h];rfl
    have AI:FW AE b sz (w2.setCell ⟨tw,535,none⟩ .nilIface):=by rw[e0];exact(C0 _ AO).trans r5
    have AJ:=r8.setCell (p:=⟨tw,535,none⟩) (.inl (by simp)) .nilIface;have AA:=AV.out (w2.setCell ⟨tw,535,none⟩ .nilIface) ⟨AE,Aw,_,AZ,_,.inr ⟨ht,pd,rfl,r1⟩,by simpa[List.append_assoc] using AG,AH,rl,AI,zP AM.out.size r6,by simpa[World.setCell] using r7,((Fr.of_below AM.out w.heap.size [b,tw]).wide HH.out.Bw (λk hk _=>hk)).trans AJ⟩;have AD:=A0 AA;clear AA r1 r3 r4 r5 r6 r7 r8 AH AG AI AJ AL AQ;go_wp2_with fail
    exact AD.out
 ·subst hu
  have AL:Calls Tryz.prog 66 #[.int .i64 (fm true p g),.int .i64 2] w1 (C4 w1 (.bool true)):=by
   have:=A5o w1 true p g true false false;rw[Bool.true_and,Bool.and_false,Bool.and_false] at this;exact this
  have Al:=A9n G0 E B tw b fw 0 H AX bs w1 AY.out (by omega) AC.out.inT.toIn (AC.out.uf rfl) sz AW.out (by omega);have Ap:=A0 Al;clear Al;generalize fm true p g=fv at*;go_wp2_with (first|(go_at_call 66;refine AL.mono ?_;rintro e wx ⟨rfl,rfl⟩))
  have AT:H.typ≠103:=λe=>by have:=(AC.out.gf4 e).1;cases this
  refine Ap.out.mono ?_;rintro e w2 ⟨rfl,AE,B2,r1,r3,r4,r5,r6,r7,r8⟩;obtain⟨-,-,aA,-,AP⟩:=V7 r4.2.1 r4.2.2 r4.1;have AH:=r4.setErr .nilIface;have AG:=r3.setCell (p:=⟨tw,535,none⟩) r4.1 (by decide) (by decide) .nilIface;have AO:AE≠tw:=by rintro rfl;have:=r4.1;rw[r5] at this;injection this with this;injection this with _ h2 _;exact absurd h2 (by decide)
  have AI:FW AE b sz (w2.setCell ⟨tw,535,none⟩ .nilIface):=(C0 _ AO).trans r5;have AJ:=r8.setCell (p:=⟨tw,535,none⟩) (.inl (by simp)) .nilIface;have AA:=AV.out (w2.setCell ⟨tw,535,none⟩ .nilIface) ⟨AE,B2.bytes,_,B2.bytes,_,.inl ⟨AT,.inl ⟨rfl,B2,r1,rfl⟩,rfl⟩,by simpa[List.append_assoc] using AG,AH,r1.ok.len,AI,zP AM.out.size r6,by simpa[World.setCell] using r7,((Fr.of_below AM.out w.heap.size [b,tw]).wide HH.out.Bw (λk hk _=>hk)).trans AJ⟩;have AD:=A0 AA;clear AA r1 r3 r4 r5 r6 r7 r8 AH AG AI AJ AL;go_wp2_with fail
  exact AD.out
end Go.Proofs.YtkanmkcojlefbaaGreatDoor
