/-
  Part of the proof; holds the texts WGnuT, WGnu, Nm2, RHsG.
-/
import Derived.Test.YtkanmkcojlefbaaGreatDoorM24
import Derived.Test.YtkanmkcojlefbaaGreatDoorM25
import Derived.Laws.DeepNot64
set_option maxHeartbeats 4000000
set_option maxRecDepth 100000
set_option linter.unusedSimpArgs false
set_option linter.unusedVariables false
namespace Go.Proofs.YtkanmkcojlefbaaGreatDoor
open Go.RowKit
noncomputable def B7U:Code:=I2 11 (Tryz.f69.body.getD .skip)
def S3 (n x:Int):List UInt8:=if E5 n x then List.replicate 12 0 else D9 12 (x-62135596800)
theorem A0J (n x:Int): (S3 n x).length=12:=by
 unfold S3;split
 ·rfl
 ·exact K7 12 _ (by decide)
theorem B0D {n x:Int} (h:E5 n x=true):S3 n x=List.replicate 12 0:=by rw[S3,if_pos h]
theorem A7i {n x:Int} (h:E5 n x=false):S3 n x=D9 12 (x-62135596800):=by rw[S3,if_neg (by rw[h];exact Bool.false_ne_true)]
structure A6f (h:Hd) (B:C1):Prop where
 ok:B.Ok
 typ:B.typ=[UInt8.ofNat h.typ.toNat]
 name:V9 (List.replicate 100 0) h.name B.name
 link:V9 (List.replicate 100 0) h.link B.link
 user:V9 (List.replicate 32 0) h.user B.user
 group:V9 (List.replicate 32 0) h.group B.group
 mode:B.mode=D9 8 h.mode
 uid:B.uid=D9 8 h.uid
 gid:B.gid=D9 8 h.gid
 size:B.size=D9 12 h.size
 mtime:B.mtime=D9 12 h.sec
 maj:B.maj=D9 8 h.maj
 mnr:B.mnr=D9 8 h.mnr
 magic:B.magic=[117,115,116,97,114,32]
 ver:B.ver=[32,0]
 chk:B.chk=C2 7 (X8 B.bytes 512)++[32]
 rest:B.rest=S3 h.aw h.ax++(S3 h.cw h.cx++List.replicate 143 0)
def B6n (B tw b pad:Nat) (H:Hd) (bs:List UInt8) (sz:Int) (w w':World):Prop:=
 ∃AA B2,A6f H B2/\W3 B b (bs++List.replicate pad 0++B2.bytes) w'/\TW tw b AA (E7 sz) H.cells (Lib.byteCells B2.bytes) .nilIface w'/\FW AA b sz w'/\w.heap.size<=AA/\AA<w'.heap.size/\Fr B [b,tw] w w'
def B0P (tw b fw:Nat) (pad:Int) (H:Hd) (fb:Nat) (aE:Addr) (B2:C1) (wa wx:World):Prop:=∃ferr,TB tw b fw pad H.cells fb ferr aE B2 wx/\Fr wa.heap.size [tw,fb] wa wx
section
variable {tw b fw:Nat} {pad:Int} {hdr:List Value} {fb:Nat} {ferr:Value} {aE:Addr} {B:C1} {w:World}
theorem A8W (h:TB tw b fw pad hdr fb ferr aE B w) (a f c:List UInt8) (k o cap:Nat) (hr:B.rest=a++(f++c)) (hf:f.length=12) (ha:a.length=k) (ho:368+k=o) (hc:12<=cap) (x:Int) (hx:X5 12 x):
  Calls Tryz.prog 144 #[.pointer (some ⟨fb,0,none⟩),.slice (some ⟨tw,o,none⟩) 12 cap,.int .i64 x] w λe w'=>e= .returned (.tuple #[])/\TB tw b fw pad hdr fb ferr aE {B with rest:=a++(D9 12 x++c)} w'/\Fr w.heap.size [tw,fb] w w':=by
 have hs:=h.seg.get_rest;rw[hr] at hs
 have hl: (a++(D9 12 x++c)).length=167:=by
  have:=h.ok.rest;rw[hr] at this;simp only[List.length_append,hf] at this⊢;rw[K7 12 x (by decide)];exact this
 refine A4H h 12 cap o x _ _ f {B with rest:=a++(D9 12 x++c)} (E4.split.1 hs) hf (.inr rfl) hc ?_ hx (λw' k=>(E4.split.2 k).put_rest) (h.ok.put_rest _ hl);rw[List.length_append,h.ok.off_rest,h.pre,Lib.byteCells_length,ha];omega
end
theorem B2P (G0:Nat) (E:Nat->Addr) (B tw b fw pad:Nat) (H:Hd) (As bs:List UInt8) (w:World) (h:WS G0 E B tw b fw pad H As bs .nilIface w) (hp:pad<512) (Ai:H.InT) (BC:A5z H) (sz:Int) (BF:sz=if D1 H.typ then 0 else H.size) (AX:0<=sz) (Aj:bs.length+pad+512<=140737488355328)
  (R:Ending->World->Prop) (hR:∀w',B6n B tw b pad H bs sz w w'->R (.returned .nilIface) w') {c2 c3 c4 c5 c6 c7 c8 c9 bD bE bF bH bI bJ bK bL bM bN c20 c21 bO bP bQ bR bS bT bU bV bW bX bY bZ cA cB cC c37 cD cE cF cG cH cI cJ cL c46 cM cO cP cQ c51 cS c53 cT cU cV cW cX cY cZ dA dB dC dD dE dF dG dH dI dJ dL dM dO dP c75 dQ dR dS dT c80 dU dV dW dX c85 dY dZ eA eC eD eH eJ eK eO eR eS eV eW eX aA aB aC aD aF aG aH aI aJ aK aL aM aN aO aP aQ aR aS aT aU aV aW aX aY aZ bB bC:Value}:
  Code.wp Tryz.prog B7U (bodyPost Tryz.prog Tryz.f69 R) ⟨(.pointer (some ⟨tw,0,none⟩)::.pointer (some ⟨tw,3,none⟩)::c2::c3::c4::c5::c6::c7::c8::c9::bD::bE::bF::bH::bI::bJ::bK::bL::bM::bN::c20::c21::bO::bP::bQ::bR::bS::bT::bU::bV::bW::bX::bY::bZ::cA::cB::cC::c37::cD::cE::cF::cG::cH::cI::cJ::cL::c46::cM::cO::cP::cQ::c51::cS::c53::cT::cU::cV::cW::cX::cY::cZ::dA::dB::dC::dD::dE::dF::dG::dH::dI::dJ::dL::dM::dO::dP::c75::dQ::dR::dS::dT::c80::dU::dV::dW::dX::c85::dY::dZ::eA::eC::eD::eH::eJ::eK::eO::eR::eS::eV::eW::eX::aA::aB::aC::aD::aF::aG::aH::aI::aJ::aK::aL::aM::aN::aO::aP::aQ::aR::aS::aT::aU::aV::aW::aX::aY::aZ::bB::bC::[]).toArray,[]⟩ w:=by
 conv=>arg 2;whnf
 have AE:=h.below ((Below.refl _ w).alloc (Nat.le_refl _) (.cells #[.nilIface] 196));have Ah:=heap_alloc_new w (.cells #[.nilIface] 196)
 have Az:TB tw b fw pad H.cells w.heap.size .nilIface (E 3) (A4n As) (w.alloc (.cells #[.nilIface] 196)):=
  ⟨by rw[A1n _ AE.blk512];exact AE.W,A4o _ AE.blk512,Ah,AE.gl.db,AE.gl.err 3 (by decide),by have:=AE.tG;have:=AE.gl.g19;omega,by have:=AE.tG;have:=AE.gl.g19;omega,by have:=h.gl.le;have:=h.gl.g19;omega,by have:=h.gl.le;have:=h.gl.g19;omega⟩
 have hT:=B1X (w.alloc (.cells #[.nilIface] 196)) tw b fw w.heap.size pad H Ai.toIn BC .nilIface (E 3) _ Az;have BW:w.heap.size≠tw:=by have:=A8 h.W.1;omega
 have BA:G0<=w.heap.size:=h.gl.le;have Aw:Fr B [tw] w (w.alloc (.cells #[.nilIface] 196)):=(Fr.refl _ _ w).alloc _;have HT:=A0 hT;have Ad:=A0 AE;have An:=A0 Ah;have BL:=A0 Aw;have AD:=A0 Ai;have Aq:=A0 BF;have BO:=A0 hR;have BU:=A0 (And.intro h.BG (And.intro h.tG h.bG));have Af:=A0 AX;clear hT AE Ah Aw Ai BF hR Az h AX BC;generalize BS:w.alloc (.cells #[.nilIface] 196)=wa at*;generalize AV:w.heap.size=fb at*;have BJ:=A0 AV;go_wp2_with fail
 refine HT.out.mono ?_;clear AV BS;rintro e w3 ⟨rfl,B2,ferr2,AI,Ag,AH⟩;have Al:B2.rest=[]++(List.replicate 12 0++(List.replicate 12 0++List.replicate 143 0)):=by rw[Ag.rest];decide
 have BV:=A0 Al
 have AR:TB tw b fw pad H.cells fb ferr2 (E 3) {B2 with rest:=List.replicate 12 0++(List.replicate 12 0++List.replicate 143 0)} w3:=by
  have e: ({B2 with rest:=List.replicate 12 0++(List.replicate 12 0++List.replicate 143 0)}:C1)=B2:=by
   have:List.replicate 12 0++(List.replicate 12 0++List.replicate 143 0)=B2.rest:=Al.symm;rw[this]
  rw[e];exact AI
 have AA:=A0 AR;have Ar:=A0 Ag;have AJ:=A0 AH;clear AI AR Ag AH HT Al;have c0:=AA.out.hdr 11 (.int .u64 H.aw) rfl;have c1:=AA.out.hdr 12 (.int .i64 H.ax) rfl;go_wp2_with fail
 refine(V6 _ _ _).mono ?_;rintro e w4 ⟨rfl,AO⟩;have AB:=A0 (AA.out.below AO);have AL:=A0 (AJ.out.trans (Fr.of_below AO wa.heap.size [tw,fb]));clear AO c0 c1 AA AJ;go_upto_if 60 with fail
 go_cut [] (λwx=>B0P tw b fw pad H fb (E 3) {B2 with rest:=S3 H.aw H.ax++(List.replicate 12 0++List.replicate 143 0)} wa wx)
 case first=>
  cases hz:E5 H.aw H.ax
  ·have d0:=AB.out.hdr 11 (.int .u64 H.aw) rfl
   have d1:=AB.out.hdr 12 (.int .i64 H.ax) rfl;have vg:=A0 A8Y;have va:=A0 A6r;have HZ:=A0 hz;clear hz;have Ae:=A0 (fun(wx:World) (hx:TB tw b fw pad H.cells fb ferr2 (E 3) {B2 with rest:=List.replicate 12 0++(List.replicate 12 0++List.replicate 143 0)} wx)=>A8W hx [] (List.replicate 12 0) (List.replicate 12 0++List.replicate 143 0) 0 368 167 rfl rfl rfl rfl (by decide) (H.ax-62135596800) (X5.w12 (by have:=AD.out.ax;omega) (by have:=AD.out.ax;omega)));go_wp2_with fail
   go_region_held3 (λw'=>w'.cell? ⟨tw,14,none⟩=some (.int .u64 H.aw)/\w'.cell? ⟨tw,15,none⟩=some (.int .i64 H.ax)) (first|go_keep|(refine And.intro ?_ ?_<;>assumption)) (first|(go_at_call 108;refine(vg.out _ _).mono ?_;rintro e wx ⟨rfl,rfl⟩)|(go_at_call 120;refine(va.out _ _ _).mono ?_;rintro e wx ⟨rfl,rfl⟩)|(go_at_call 103;refine(A0k w4.drew H.aw H.ax AD.out.aw.1 AD.out.aw.2 AD.out.ax).mono ?_;rintro e wu ⟨rfl,AG⟩;have m3:=(AB.out.drew.below AG).hdr 11 (.int .u64 H.aw) rfl;have m4:=(AB.out.drew.below AG).hdr 12 (.int .i64 H.ax) rfl;have HC:=A0 (Ae.out _ (AB.out.drew.below AG));have HB:=A0 AG;clear AG)|(go_at_call 144;refine HC.out.mono ?_;rintro e w5 ⟨rfl,T5,F5⟩;have m5:=T5.hdr 11 (.int .u64 H.aw) rfl;have m6:=T5.hdr 12 (.int .i64 H.ax) rfl))
   have G5:Fr wa.heap.size [tw,fb] wa w5:=(AL.out.drew.trans (Fr.of_below HB.out wa.heap.size [tw,fb])).trans (F5.wide (Nat.le_trans AL.out.drew.size HB.out.size) (λk hk _=>hk));have HM:Hid (B0P tw b fw pad H fb (E 3) {B2 with rest:=S3 H.aw H.ax++(List.replicate 12 0++List.replicate 143 0)} wa w5):=A0 ⟨_,by rw[A7i HZ.out];exact T5,G5⟩;clear m3 m4 m5 m6 T5 F5 G5 HC;go_wp2_with fail
   go_meet
   exact HM.out
  ·have HM:Hid (B0P tw b fw pad H fb (E 3) {B2 with rest:=S3 H.aw H.ax++(List.replicate 12 0++List.replicate 143 0)} wa w4):=A0 ⟨_,by rw[B0D hz];exact AB.out,AL.out⟩
   go_wp2_with fail
   go_meet
   exact HM.out
 case rest=>
 obtain⟨AM,AI,AH⟩:=hcut;clear AB AL;obtain⟨w3,AZ⟩:∃w3:World,w3=wc:=⟨_,rfl⟩;rw[<-AZ] at AI AH⊢;clear AZ wc;have AA:=A0 AI;have AJ:=A0 AH;clear AI AH;have c0:=AA.out.hdr 13 (.int .u64 H.cw) rfl;have c1:=AA.out.hdr 14 (.int .i64 H.cx) rfl;go_wp2_with fail
 refine(V6 _ _ _).mono ?_;rintro e w4 ⟨rfl,AO⟩;have AB:=A0 (AA.out.below AO);have AL:=A0 (AJ.out.trans (Fr.of_below AO wa.heap.size [tw,fb]));clear AO c0 c1 AA AJ;go_upto_if 75 with fail
 go_cut [] (λwx=>B0P tw b fw pad H fb (E 3) {B2 with rest:=S3 H.aw H.ax++(S3 H.cw H.cx++List.replicate 143 0)} wa wx)
 case first=>
  cases hz:E5 H.cw H.cx
  ·have d0:=AB.out.hdr 13 (.int .u64 H.cw) rfl
   have d1:=AB.out.hdr 14 (.int .i64 H.cx) rfl;have vg:=A0 A8Y;have va:=A0 A6s;have HZ:=A0 hz;clear hz;have Ae:=A0 (fun(wx:World) (hx:TB tw b fw pad H.cells fb AM (E 3) {B2 with rest:=S3 H.aw H.ax++(List.replicate 12 0++List.replicate 143 0)} wx)=>A8W hx (S3 H.aw H.ax) (List.replicate 12 0) (List.replicate 143 0) 12 380 155 rfl rfl (A0J _ _) rfl (by decide) (H.cx-62135596800) (X5.w12 (by have:=AD.out.cx;omega) (by have:=AD.out.cx;omega)));go_wp2_with fail
   go_region_held3 (λw'=>w'.cell? ⟨tw,16,none⟩=some (.int .u64 H.cw)/\w'.cell? ⟨tw,17,none⟩=some (.int .i64 H.cx)) (first|go_keep|(refine And.intro ?_ ?_<;>assumption)) (first|(go_at_call 108;refine(vg.out _ _).mono ?_;rintro e wx ⟨rfl,rfl⟩)|(go_at_call 121;refine(va.out _ _ _).mono ?_;rintro e wx ⟨rfl,rfl⟩)|(go_at_call 103;refine(A0k w4.drew H.cw H.cx AD.out.cw.1 AD.out.cw.2 AD.out.cx).mono ?_;rintro e wu ⟨rfl,AG⟩;have m3:=(AB.out.drew.below AG).hdr 13 (.int .u64 H.cw) rfl;have m4:=(AB.out.drew.below AG).hdr 14 (.int .i64 H.cx) rfl;have HC:=A0 (Ae.out _ (AB.out.drew.below AG));have HB:=A0 AG;clear AG)|(go_at_call 144;refine HC.out.mono ?_;rintro e w5 ⟨rfl,T5,F5⟩;have m5:=T5.hdr 13 (.int .u64 H.cw) rfl;have m6:=T5.hdr 14 (.int .i64 H.cx) rfl))
   have G5:Fr wa.heap.size [tw,fb] wa w5:=(AL.out.drew.trans (Fr.of_below HB.out wa.heap.size [tw,fb])).trans (F5.wide (Nat.le_trans AL.out.drew.size HB.out.size) (λk hk _=>hk));have HM:Hid (B0P tw b fw pad H fb (E 3) {B2 with rest:=S3 H.aw H.ax++(S3 H.cw H.cx++List.replicate 143 0)} wa w5):=A0 ⟨_,by rw[A7i HZ.out];exact T5,G5⟩;clear m3 m4 m5 m6 T5 F5 G5 HC;go_wp2_with fail
   go_meet
   exact HM.out
  ·have HM:Hid (B0P tw b fw pad H fb (E 3) {B2 with rest:=S3 H.aw H.ax++(S3 H.cw H.cx++List.replicate 143 0)} wa w4):=A0 ⟨_,by rw[B0D hz];exact AB.out,AL.out⟩
   go_wp2_with fail
   go_meet
   exact HM.out
 case rest=>
 obtain⟨AM,AI,AH⟩:=hcut;clear AB AL;obtain⟨w3,AZ⟩:∃w3:World,w3=wc:=⟨_,rfl⟩;rw[<-AZ] at AI AH⊢;clear AZ wc;have AA:=A0 AI;have AJ:=A0 AH;clear AI AH;generalize Au: ({B2 with rest:=S3 H.aw H.ax++(S3 H.cw H.cx++List.replicate 143 0)}:C1)=B9 at*;have BI:=A0 Au;clear Au;have AT:=Ad.out.next AJ.out An.out BA AA.out.W AA.out.ok.len;have Am:=A2X w3 tw 134 _ _ _ AA.out.ok AA.out.seg AA.out.tw15 AA.out.db;rw[AA.out.pre] at Am;have Ap:=A0 Am;have BP:=A0 AT;have AQ:=A0 AA.out.ok;clear Am AT AA;go_wp2_with fail
 refine Ap.out.mono ?_;rintro e w5 ⟨rfl,BE,Av⟩;have BH:=AQ.out.put_magic [117,115,116,97,114,32] rfl;have AP:B9.gnu.Ok:=BH.put_ver [32,0] rfl;have BR:=A0l B9.gnu.bytes 512;have Ak: (C2 7 (X8 B9.gnu.bytes 512)).length=7:=D2 7 _ (by omega) (by omega);have Aa:B9.gnu.summed.Ok:=AP.put_chk _ (by rw[List.length_append,Ak];rfl);have AS:TW tw b fw pad H.cells (Lib.byteCells B9.gnu.summed.bytes) .nilIface w5:=TW.of_seg BE rfl Aa.len;have Ab:Fr wa.heap.size [tw,fb] wa w5:=AJ.out.trans (Av.wide AJ.out.size (by simp));have AC:=Ad.out.next Ab An.out BA AS Aa.len
 have AU:B9.gnu.summed.chk=C2 7 (X8 B9.gnu.summed.bytes 512)++[32]:=by
  show C2 7 (X8 B9.gnu.bytes 512)++[32]=C2 7 (X8 B9.gnu.summed.bytes 512)++[32]
  rw[show X8 B9.gnu.summed.bytes 512=X8 B9.gnu.bytes 512 from A2F B9.gnu AP (C2 7 (X8 B9.gnu.bytes 512)++[32]) (by rw[List.length_append,Ak];rfl)]
 have Ay:A6f H B9.gnu.summed:=by
  have t:=Ar.out;have e:=BI.out;subst e;exact⟨Aa,t.typ,t.name,t.link,t.user,t.group,t.mode,t.uid,t.gid,t.size,t.mtime,t.maj,t.mnr,rfl,rfl,AU,rfl⟩
 have cs:=AC.hdr 3 (.int .i64 H.size) rfl;have ct:=AC.hdr 0 (.int .u8 H.typ) rfl
 have AY:sz<=9223372036854775807:=by
  have h1:=Aq.out;have h3:=AD.out.size;split at h1<;>omega
 have BD:=X4 w5.drew B tw b fw pad hp bs B9.gnu.summed.bytes H.cells H.size sz H.typ AC.drew.buf AC.drew.Bw AC.drew.W AC.drew.F Aj Af.out AY Aq.out
 have Ax:Fr B [b,tw] w w5.drew:=(((BL.out.wide (S':=[b,tw,fb]) (Nat.le_refl _) (λk hk _=>by rw[List.mem_singleton.1 hk];simp)).trans (Ab.wide (B':=B) (S':=[b,tw,fb]) Ad.out.Bw (λk hk _=>List.mem_cons_of_mem _ hk))).wide (Nat.le_refl _) (λk hk BX=>by
   rcases List.mem_cons.1 hk with h|hk
   ·rw[h];simp
   ·rcases List.mem_cons.1 hk with h|hk
    ·rw[h];simp
    ·have:=List.mem_singleton.1 hk;have:=BJ.out;omega)).drew
 have BM:=A0 BD;have HP:=A0 Ay;have Ao:=A0 Ax;clear BE Av BH AP BR Ak AS Ab AU BD Ay Ax Ar AQ Ap BP Aa AY AC;go_wp2_with fail
 go_region_held3 (λw'=>w'.cell? ⟨tw,6,none⟩=some (.int .i64 H.size)/\w'.cell? ⟨tw,3,none⟩=some (.int .u8 H.typ)) (first|go_keep|(refine And.intro ?_ ?_<;>assumption)) (first|(go_at_call 133;refine BM.out.mono ?_;rintro e w6 ⟨rfl,BQ,r1,r2,r3,r4,r5,r6⟩;have d0:=(A0S r2 3 (.int .i64 H.size) rfl);have d1:=(A0S r2 0 (.int .u8 H.typ) rfl)))
 have BT:w.heap.size<=w5.drew.heap.size:=Ao.out.size;have AW:=BO.out _ ⟨BQ,B9.gnu.summed,HP.out,r1,r2,r3,Nat.le_trans BT r4,r5,Ao.out.trans (r6.wide (Nat.le_refl _) (λk hk _=>hk))⟩;have Ac:=A0 AW;clear AW r1 r2 r3 r4 r5 r6;go_wp2_with fail
 exact Ac.out
def LX (AA:Int) (s X:List UInt8):Prop:=(s.length<=100/\X=[])\/(100<s.length/\∃R,A6A [117,115,116,97,114,32] [32,0] AA (s++[0]).length R/\X=R.bytes++(s++[0])++List.replicate (E7 (s++[0]).length).toNat 0)
theorem LX.len {AA:Int} {s X:List UInt8} (h:LX AA s X):X.length<=s.length+2048:=by
 rcases h with ⟨-,rfl⟩|⟨-,R,hR,rfl⟩
 ·simp
 ·have: (E7 (s++[0]).length).toNat<512:=by unfold E7;omega
  simp only[List.length_append,List.length_replicate,hR.ok.len,List.length_cons,List.length_nil] at*;omega
def GM (G0:Nat) (E:Nat->Addr) (B tw b:Nat) (H:Hd) (AB:List UInt8) (w wx:World):Prop:=∃fw pad AA bs,WS G0 E B tw b fw pad H AA bs .nilIface wx/\pad<512/\bs++List.replicate pad 0=AB/\Fr B [b,tw] w wx
theorem GM.hdr {G0:Nat} {E:Nat->Addr} {B tw b:Nat} {H:Hd} {AA:List UInt8} {w wx:World} (h:GM G0 E B tw b H AA w wx) (k:Nat) (v:Value) (hv:H.cells[k]?=some v):wx.cell? ⟨tw,3+k,none⟩=some v:=by
 obtain⟨fw,pad,AB,bs,h1,-⟩:=h;exact h1.hdr k v hv
theorem GM.step {G0:Nat} {E:Nat->Addr} {B tw b:Nat} {H:Hd} {AB:List UInt8} {w wx:World} (h:GM G0 E B tw b H AB w wx) (s:List UInt8) (AA:Int) (hs:100<s.length) (AI:s.length<=600000) (AE:0<=AA/\AA<256) (AG:D1 AA=false) (AH:AB.length+1048576<=140737488355328):
  Calls Tryz.prog 141 #[.pointer (some ⟨tw,0,none⟩),str [46,47,46,47,64,76,111,110,103,76,105,110,107],str (s++[0]),.int .u8 AA,.int .i64 8] wx λe w'=>e= .returned .nilIface/\∃X,LX AA s X/\GM G0 E B tw b H (AB++X) w w':=by
 obtain⟨fw,pad,AC,bs,h1,h2,h3,h4⟩:=h;have hl:bs.length+pad=AB.length:=by rw[<-h3,List.length_append,List.length_replicate]
 have AJ: (s++[0]).length=s.length+1:=by simp
 refine(A2Y 8 _ _ B6B G0 E B tw b fw pad H AC bs _ (s++[0]) AA wx h1 h2 (by decide) (by omega) AE AG (by omega)).mono ?_;rintro e w' ⟨rfl,AD,B2,r1,r2,r3,r4⟩;exact⟨rfl,_,.inr ⟨hs,B2,r1,rfl⟩,AD,_,B2.bytes,_,r2,by unfold E7;omega,by rw[<-h3];simp[List.append_assoc],h4.trans r4⟩
def B6m (B tw b pad:Nat) (H:Hd) (bs:List UInt8) (sz:Int) (w:World) (e:Ending) (w':World):Prop:=
 e= .returned .nilIface/\∃AA B2 X Y,A6f H B2/\LX 76 H.name X/\LX 75 H.link Y/\W3 B b (bs++List.replicate pad 0++X++Y++B2.bytes) w'/\TW tw b AA (E7 sz) H.cells (Lib.byteCells B2.bytes) .nilIface w'/\FW AA b sz w'/\w.heap.size<=AA/\AA<w'.heap.size/\Fr B [b,tw] w w'
theorem B3d (G0:Nat) (E:Nat->Addr) (B tw b fw pad:Nat) (H:Hd) (AP bs:List UInt8) (w:World) (h:WS G0 E B tw b fw pad H AP bs .nilIface w) (hp:pad<512) (AR:H.InT) (AT:A5z H) (Ag:H.name.length<=600000) (Af:H.link.length<=600000) (sz:Int) (AU:sz=if D1 H.typ then 0 else H.size) (AE:0<=sz) (Ac:bs.length+pad+8388608<=140737488355328):
  Calls Tryz.prog 69 #[.pointer (some ⟨tw,0,none⟩),.pointer (some ⟨tw,3,none⟩)] w (B6m B tw b pad H bs sz w):=by
 have HG:Hid (GM G0 E B tw b H (bs++List.replicate pad 0) w w):=A0 ⟨fw,pad,AP,bs,h,hp,rfl,Fr.refl _ _ w⟩;have AW:=A0 AR;have AX:=A0 AT;have AY:=A0 AU;have AJ:=A0 AE;have AS: (bs++List.replicate pad 0).length=bs.length+pad:=by rw[List.length_append,List.length_replicate]
 have AI:=A0 AS;clear h AR AT AU AE AS;go_enter Tryz.func69,Tryz.ntmps69
 have c1:=HG.out.hdr 1 (str H.name) rfl;go_upto_if 21 with fail
 go_cut [5,6] (λ_ _ wx=>∃X,LX 76 H.name X/\GM G0 E B tw b H (bs++List.replicate pad 0++X) w wx)
 case first=>
  by_cases hl:H.name.length<=100
  ·go_wp2_with fail
   go_meet
   exact⟨[],.inl ⟨hl,rfl⟩,by rw[List.append_nil];exact HG.out⟩
  ·have HC:=A0 (HG.out.step H.name 76 (by omega) (by omega) (by decide) rfl (by have:=AI.out;omega))
   have AB:Value.string ({data:=H.name.toArray}++ {data:=#[0]})=str (H.name++[0]):=congrArg Value.string (V5 H.name [0]);have AA:=A0 AB;clear AB;go_wp2_with fail
   rw[AA.out];refine HC.out.mono ?_;rintro e w1 ⟨rfl,X1,AD,AC⟩;have AL:=A0 AD;have AH:=A0 AC;clear AD AC HC AA;go_wp2_with fail
   go_meet
   exact⟨X1,AL.out,AH.out⟩
 case rest=>
 obtain⟨X,hX,hG⟩:=hcut;clear HG c1;obtain⟨w2,AV⟩:∃w2:World,w2=wc:=⟨_,rfl⟩;rw[<-AV] at hG⊢;clear AV wc;have HX:=A0 hX;have HG:=A0 hG;have AO:=A0 hX.len;clear hX hG;have c2:=HG.out.hdr 2 (str H.link) rfl;go_upto_if 38 with fail
 go_cut [7,8] (λ_ _ wx=>∃Y,LX 75 H.link Y/\GM G0 E B tw b H (bs++List.replicate pad 0++X++Y) w wx)
 case first=>
  by_cases hl:H.link.length<=100
  ·go_wp2_with fail
   go_meet
   exact⟨[],.inl ⟨hl,rfl⟩,by rw[List.append_nil];exact HG.out⟩
  ·have HC:=A0 (HG.out.step H.link 75 (by omega) (by omega) (by decide) rfl (by have:=AI.out;have:=AO.out;rw[List.length_append];omega))
   have AB:Value.string ({data:=H.link.toArray}++ {data:=#[0]})=str (H.link++[0]):=congrArg Value.string (V5 H.link [0]);have AA:=A0 AB;clear AB;go_wp2_with fail
   rw[AA.out];refine HC.out.mono ?_;rintro e w1 ⟨rfl,X1,AD,AC⟩;have AL:=A0 AD;have AH:=A0 AC;clear AD AC HC AA;go_wp2_with fail
   go_meet
   exact⟨X1,AL.out,AH.out⟩
 case rest=>
 obtain⟨Y,hY,AZ,AG,AM,AQ,h1,h2,h3,h4⟩:=hcut;have Ae:=hY.len
 have Ab:AQ.length+AG+512<=140737488355328:=by
  have e:=congrArg List.length h3;have:=AI.out;have:=AO.out;simp only[List.length_append,List.length_replicate] at e;omega
 have HY:=A0 hY;have H1:=A0 h1;have H3:=A0 h3;have H4:=A0 h4;clear HG c2 hY h1 h3 h4;refine‹∀ (a:Act) (Ad:World),Code.wp Tryz.prog _ (bodyPost Tryz.prog Tryz.f69 (B6m B tw b pad H bs sz w)) a Ad->_› _ _ ?_;refine B2P G0 E B tw b AZ AG H AM AQ wc H1.out h2 AW.out AX.out sz AY.out AJ.out Ab _ (λw' hT=> ?_);obtain⟨Aa,B4,t1,t2,t3,t4,t5,t6,t7⟩:=hT;exact⟨rfl,Aa,B4,X,Y,t1,HX.out,HY.out,by rw[H3.out] at t2;exact t2,t3,t4,Nat.le_trans H4.out.size t5,t6,H4.out.trans t7⟩
theorem B1w (k:Nat) (x:Int):∀i,i<k->(bb k x).getD i 0=UInt8.ofNat ((x/256^ (k-1-i))% 256).toNat:=by
 induction k with
 |zero=>intro i hi;omega
 |succ k ih=>
  intro i hi;cases i with
  |zero=>simp[bb]
  |succ i=>
   have:=ih i (by omega);rw[bb,List.getD_cons_succ,this,show k+1-1- (i+1)=k-1-i by omega]
def mag (x:Int):Nat:=if x<0 then(-1-x).toNat else x.toNat
theorem B6S (v:Nat) (h:v<256): (255-v)^^^255=v:=by
 have:∀k:Fin 256,(255-k.val)^^^255=k.val:=by decide
 exact this ⟨v,h⟩
theorem B0C (x:Int) (d:Nat) (hx:0<=x): ((x/ (d:Int))% 256).toNat=mag x/d% 256:=by
 have e:mag x=x.toNat:=by unfold mag;rw[if_neg (by omega)]
 rw[e];obtain⟨m,rfl⟩:=Int.eq_ofNat_of_zero_le hx;have e1: ((m:Int)/ (d:Int))=((m/d:Nat):Int):=(Int.natCast_ediv m d).symm;rw[e1,Int.toNat_natCast];omega
theorem B0B (x:Int) (d:Nat) (hd:0<d) (hx:x<0): ((x/ (d:Int))% 256).toNat=255-mag x/d% 256:=by
 have e:mag x=(-1-x).toNat:=by unfold mag;rw[if_pos hx]
 rw[e];obtain⟨m,hm⟩:=Int.eq_ofNat_of_zero_le (show 0<=-1-x by omega);have AA:x= -1- (m:Int):=by omega
 rw[hm,Int.toNat_natCast];have h1: (d:Int)*((m/d:Nat):Int)+((m% d:Nat):Int)=m:=by exact_mod_cast Nat.div_add_mod m d
 have h2:m% d<d:=Nat.mod_lt m hd
 have h3:x/ (d:Int)= -1- ((m/d:Nat):Int):=by
  refine((Int.ediv_emod_unique (r:=(d:Int)-1- ((m% d:Nat):Int)) (by omega)).2 ⟨?_,by omega,by omega⟩).1;rw[Int.mul_sub,AA];omega
 rw[h3];omega
theorem B4z (X v:Nat) (hX:X<72057594037927936) (hv:v<256):bits .or .u64 ((X:Int)*256) (v:Int)=((X*256+v:Nat):Int):=by
 have h:X*256+v=X*256|||v:=by simpa[Nat.shiftLeft_eq] using Nat.shiftLeft_add_eq_or_of_lt (show v<2^8 by omega) X
 have:=u64_or_nat (X*256) v (by omega) (by omega);rw[h];simpa using this
theorem A6n (n:Nat) (x:Int) (i:Nat) (h0:0<i) (hi:i<n): (L0 n x).getD i 0=(bb n x).getD i 0:=by
 obtain⟨k,rfl⟩:∃k,n=k+1:=⟨n-1,by omega⟩;obtain⟨j,rfl⟩:∃j,i=j+1:=⟨i-1,by omega⟩;simp[L0,bb]
theorem A6o (n:Nat) (x:Int): (L0 n x).length=n:=by
 unfold L0;cases n with
 |zero=>rfl
 |succ k=>simp[bb,A3W]
theorem A4s (n:Nat) (x:Int) (hn:n=8\/n=12) (hb:M2 n x=true) (h0: -9223372036854775808<=x) (h1:x<=9223372036854775807): ((L0 n x).getD 0 0).toNat=(if x<0 then 255 else 128)/\mag x/256^ (n-1)=0/\mag x/256<72057594037927936/\mag x<9223372036854775808:=by
 have hm:mag x<9223372036854775808/\(n=8->mag x<72057594037927936):=by
  have:n=8->-72057594037927936<=x/\x<72057594037927936:=λe=>by subst e;simpa[M2] using hb
  unfold mag;split<;>omega
 have hd:mag x/256^ (n-1)=0:=by
  rcases hn with rfl|rfl
  ·have:=hm.2 rfl
   exact Nat.div_eq_of_lt this
  ·refine Nat.div_eq_of_lt (Nat.lt_trans hm.1 (by decide))
 refine⟨?_,hd,by omega,hm.1⟩;obtain⟨k,rfl⟩:∃k,n=k+1:=⟨n-1,by omega⟩;have e: ((L0 (k+1) x).getD 0 0)=(bb (k+1) x).getD 0 0|||128:=by simp[L0,bb]
 rw[e,B1w _ _ 0 (by omega),Nat.sub_zero];have hc: (256:Int)^ (k+1-1)=((256^ (k+1-1):Nat):Int):=by simp
 rw[hc];by_cases hx:x<0
 ·rw[B0B x _ (Nat.pow_pos (by decide)) hx,hd,if_pos hx];rfl
 ·rw[B0C x _ (by omega),hd,if_neg hx];rfl
theorem B3t (n:Nat) (x:Int) (i:Nat) (h0:0<i) (hi:i<n):bits .xor .u8 (((L0 n x).getD i 0).toNat:Int) (if x<0 then 255 else 0)=((mag x/256^ (n-1-i)% 256:Nat):Int):=by
 rw[A6n n x i h0 hi,B1w n x i hi];have hc: (256:Int)^ (n-1-i)=((256^ (n-1-i):Nat):Int):=by simp
 rw[hc];by_cases hx:x<0
 ·have hv:mag x/256^ (n-1-i)% 256<256:=Nat.mod_lt _ (by decide)
  rw[B0B x _ (Nat.pow_pos (by decide)) hx,if_pos hx,UInt8.toNat_ofNat',Nat.mod_eq_of_lt (by omega)];have:=u8_xor_nat (255-mag x/256^ (n-1-i)% 256) 255 (by omega) (by decide);rw[B6S _ hv] at this;exact this
 ·have hv:mag x/256^ (n-1-i)% 256<256:=Nat.mod_lt _ (by decide)
  rw[B0C x _ (by omega),if_neg hx,UInt8.toNat_ofNat',Nat.mod_eq_of_lt (by omega)];have:=u8_xor_nat (mag x/256^ (n-1-i)% 256) 0 hv (by decide);rw[Nat.xor_zero] at this;exact this
theorem B2l (m k:Nat):m/256^k=m/256^ (k+1)*256+m/256^k% 256:=by
 rw[Nat.pow_succ,<-Nat.div_div_eq_div_mul];omega
theorem A7w (w:World) (p:Value) (g o n c:Nat) (x:Int) (hn:n=8\/n=12) (hb:M2 n x=true) (AS: -9223372036854775808<=x) (AT:x<=9223372036854775807) (AJ:At w g o (Lib.byteCells (L0 n x))) (AW:n<=c) (AP:c<=9223372036854775807):
  Calls Tryz.prog 199 #[p,.slice (some ⟨g,o,none⟩) n c] w (C4 w (.int .i64 x)):=by
 obtain⟨f1,f2,f3,f4⟩:=A4s n x hn hb AS AT;have hl:=A6o n x;have AB:=W7 AJ 0 (by omega);rw[f1,Nat.add_zero] at AB;have AV: (0:Int)<n:=by omega
 have AO:=A0 (λi (h:i<n)=>W7 AJ i (by omega));have HB:=A0 (λi h0 hi=>B3t n x i h0 hi);have HM:=A0 (B2l (mag x));have F2:=A0 f2;have F3:=A0 f3
 have AD:x=if x<0 then-1- (mag x:Int) else(mag x:Int):=by
  unfold mag;split<;>omega
 clear AJ f1 f2 f3 hl hb;by_cases hx:x<0
 ·rw[if_pos hx] at AB AD
  have AG:Hid (∀i,0<i->i<n->bits .xor .u8 (((L0 n x).getD i 0).toNat:Int) 255=((mag x/256^ (n-1-i)% 256:Nat):Int)):=A0 (λi h0 hi=>by have:=HB.out i h0 hi;rwa [if_pos hx] at this);have a1:bits .and .u8 255 128=128:=by decide
  have a2:bits .and .u8 255 64=64:=by decide
  have a3:bits .xor .u8 255 255=0:=by decide
  have a4:bits .and .u8 0 127=0:=by decide
  have AH:=A0 AD;have AL:w.cell? ⟨g,o,none⟩=some (.int .u8 255):=AB;clear HB AD AB;generalize mag x=m at*;go_enter Tryz.func199,Tryz.ntmps199
  go_wp2_with fail
  go_loop [6,7,8,26] (λs6 s7 s8 s26=>∃i:Nat,i<=n/\s6= .int .u64 ((m/256^ (n-i):Nat):Int)/\s26= .int .i64 i) (λ_ _ _ s26=>n- (intOf s26).toNat)
  case atStart=>exact⟨0,Nat.zero_le _,by
   have:m/256^ (n-0)=0:=by
    have e:=HM.out (n-1);rw[F2.out,show n-1+1=n-0 by omega] at e;omega
   rw[this];rfl,rfl⟩
  case round=>
   obtain⟨i,hi,rfl,rfl⟩:=hrel;by_cases AE:i<n
   ·have AC: (i:Int)<n:=by omega
    have AA:=HM.out (n-1-i);rw[show n-1-i+1=n-i by omega] at AA
    have hX:m/256^ (n-i)<72057594037927936:=by
     have:m/256^ (n-i)<=m/256^1:=Nat.div_le_div_left (Nat.pow_le_pow_right (by decide) (by omega)) (by decide);have:=F3.out;omega
    have hV:m/256^ (n-1-i)% 256<256:=Nat.mod_lt _ (by decide);by_cases h0:i=0
    ·subst h0
     have e1:m/256^ (n-0)=0:=by
      have e:=F2.out;rw[show n-1-0=n-1 by omega,e] at AA;omega
     have e2:m/256^ (n- (0+1))=0:=by rw[show n- (0+1)=n-1 by omega];exact F2.out
     rw[e1];have E2:=A0 e2;have o0:bits .or .u64 0 0=0:=by decide
     clear AA hX hV e1 e2;go_wp2_with fail
     go_round
     case rel=>exact⟨0+1,by omega,by rw[E2.out];rfl,by go_num⟩
     case measure=>simp[intOf];omega
    ·have AM:¬(i:Int)=0:=by omega
     have hc:=AO.out i AE;have AU:=AG.out i (by omega) AE;have AI:Hid (m/256^ (n- (i+1))=m/256^ (n-i)*256+m/256^ (n-1-i)% 256):=A0 (by rw[show n- (i+1)=n-1-i by omega];exact AA);have AR:=B4z _ _ hX hV;have hk: ((i:Int)==0)=false:=by simpa using AM
     clear AA h0;generalize m/256^ (n-i)=X at*;generalize m/256^ (n-1-i)% 256=V at*;generalize ((L0 n x).getD i 0).toNat=C at*;have hq: (X:Int)/72057594037927936=0:=by omega
     have hw:IntKind.u64.wrap ((X:Int)*256)=(X:Int)*256:=by rw[IntWalk.u64_in _ (by omega)]
     go_wp2_with fail
     go_round
     case rel=>exact⟨i+1,by omega,by rw[AI.out];push_cast;rfl,by go_num⟩
     case measure=>simp[intOf];omega
   ·obtain rfl:i=n:=by omega
    have AC:¬(i:Int)<i:=by omega
    have e1:m/256^ (i-i)=m:=by rw[Nat.sub_self,Nat.pow_zero,Nat.div_one]
    rw[e1];have hq: (m:Int)/9223372036854775808=0:=by omega
    have hw:IntKind.i64.wrap (m:Int)=m:=by rw[IntWalk.i64_in _ (by omega)]
    clear e1;have AQ:=i64_not m f4;go_wp2_with fail
    go_ret
    refine⟨?_,rfl⟩;rw[AH.out];rfl
 ·rw[if_neg hx] at AB AD
  have AG:Hid (∀i,0<i->i<n->bits .xor .u8 (((L0 n x).getD i 0).toNat:Int) 0=((mag x/256^ (n-1-i)% 256:Nat):Int)):=A0 (λi h0 hi=>by have:=HB.out i h0 hi;rwa [if_neg hx] at this);have a1:bits .and .u8 128 128=128:=by decide
  have a2:bits .and .u8 128 64=0:=by decide
  have a3:bits .xor .u8 128 0=128:=by decide
  have a4:bits .and .u8 128 127=0:=by decide
  have AH:=A0 AD;have AL:w.cell? ⟨g,o,none⟩=some (.int .u8 128):=AB;clear HB AD AB;generalize mag x=m at*;go_enter Tryz.func199,Tryz.ntmps199
  go_wp2_with fail
  go_loop [6,7,8,26] (λs6 s7 s8 s26=>∃i:Nat,i<=n/\s6= .int .u64 ((m/256^ (n-i):Nat):Int)/\s26= .int .i64 i) (λ_ _ _ s26=>n- (intOf s26).toNat)
  case atStart=>exact⟨0,Nat.zero_le _,by
   have:m/256^ (n-0)=0:=by
    have e:=HM.out (n-1);rw[F2.out,show n-1+1=n-0 by omega] at e;omega
   rw[this];rfl,rfl⟩
  case round=>
   obtain⟨i,hi,rfl,rfl⟩:=hrel;by_cases AE:i<n
   ·have AC: (i:Int)<n:=by omega
    have AA:=HM.out (n-1-i);rw[show n-1-i+1=n-i by omega] at AA
    have hX:m/256^ (n-i)<72057594037927936:=by
     have:m/256^ (n-i)<=m/256^1:=Nat.div_le_div_left (Nat.pow_le_pow_right (by decide) (by omega)) (by decide);have:=F3.out;omega
    have hV:m/256^ (n-1-i)% 256<256:=Nat.mod_lt _ (by decide);by_cases h0:i=0
    ·subst h0
     have e1:m/256^ (n-0)=0:=by
      have e:=F2.out;rw[show n-1-0=n-1 by omega,e] at AA;omega
     have e2:m/256^ (n- (0+1))=0:=by rw[show n- (0+1)=n-1 by omega];exact F2.out
     rw[e1];have E2:=A0 e2;have o0:bits .or .u64 0 0=0:=by decide
     clear AA hX hV e1 e2;go_wp2_with fail
     go_round
     case rel=>exact⟨0+1,by omega,by rw[E2.out];rfl,by go_num⟩
     case measure=>simp[intOf];omega
    ·have AM:¬(i:Int)=0:=by omega
     have hc:=AO.out i AE;have AU:=AG.out i (by omega) AE;have AI:Hid (m/256^ (n- (i+1))=m/256^ (n-i)*256+m/256^ (n-1-i)% 256):=A0 (by rw[show n- (i+1)=n-1-i by omega];exact AA);have AR:=B4z _ _ hX hV;have hk: ((i:Int)==0)=false:=by simpa using AM
     clear AA h0;generalize m/256^ (n-i)=X at*;generalize m/256^ (n-1-i)% 256=V at*;generalize ((L0 n x).getD i 0).toNat=C at*;have hq: (X:Int)/72057594037927936=0:=by omega
     have hw:IntKind.u64.wrap ((X:Int)*256)=(X:Int)*256:=by rw[IntWalk.u64_in _ (by omega)]
     go_wp2_with fail
     go_round
     case rel=>exact⟨i+1,by omega,by rw[AI.out];push_cast;rfl,by go_num⟩
     case measure=>simp[intOf];omega
   ·obtain rfl:i=n:=by omega
    have AC:¬(i:Int)<i:=by omega
    have e1:m/256^ (i-i)=m:=by rw[Nat.sub_self,Nat.pow_zero,Nat.div_one]
    rw[e1];have hq: (m:Int)/9223372036854775808=0:=by omega
    have hw:IntKind.i64.wrap (m:Int)=m:=by rw[IntWalk.i64_in _ (by omega)]
    clear e1;have AQ:=i64_not m f4;go_wp2_with fail
    go_ret
    refine⟨?_,rfl⟩;rw[AH.out];rfl
structure RdB8 (B:C1):Prop where
 ok:B.Ok
 magic:B.magic=[117,115,116,97,114,32]
 ver:B.ver=[32,0]
 chk:B.chk=C2 7 (X8 B.bytes 512)++[32]
 end4:B.rest.drop 163=[0,0,0,0]
theorem A8u (w:World) (g o:Nat) (T:TypeId) (AB post:List Value) (B:C1) (hR:RdB8 B) (hs:E4 w g T AB B.bytes post) (ho:AB.length=o):
  Calls Tryz.prog 198 #[.pointer (some ⟨g,o,none⟩)] w λe w'=>e= .returned (.int .i64 8)/\Below w.heap.size w w':=by
 have AC:At w g o (Lib.byteCells B.bytes):=At.of_heap hs (λj v hj=>by
  rw[List.getElem?_toArray,<-ho,List.append_assoc,List.getElem?_append_right (Nat.le_add_right _ _),Nat.add_sub_cancel_left,List.getElem?_append_left (List.getElem?_eq_some_iff.1 hj).1];exact hj)
 have hg:g<w.heap.size:=A8 hs;have v7:=A0 A5Z;have vu:=A0 Z0;have vs:=A0 B3W;have vc:=A0 B0M;have vm:=A0 A9l;have vv:=A0 A5a;have vt:=A0 A8P;have HO:=A0 (A2i (w.alloc (.cells #[.nilIface] 231)) (.pointer (some ⟨w.heap.size,0,none⟩)) g (o+148) 8 364 (X8 B.bytes 512) B.chk (by rw[hR.chk];exact P8.chk _ (A3Z _)) ((At.get_chk hR.ok AC).carry (Below.heap_alloc w _ g hg)) hR.ok.chk (by omega) (by omega));have AI:=A0 AC;have HR:=A0 hR;have HS:=A0 hs;have AL:=A0 ho;clear AC hR hs ho;go_enter Tryz.func198,Tryz.ntmps198
 go_wp2_with fail
 refine(v7.out _ _).mono ?_;rintro e w1 ⟨rfl,rfl⟩;go_wp2_with fail
 refine(vc.out _ _ _).mono ?_;rintro e w1 ⟨rfl,rfl⟩;go_wp2_with fail
 refine HO.out.mono ?_;rintro e w1 ⟨rfl,AD⟩;have hb:Below w.heap.size w w1:=((Below.refl _ w).alloc (Nat.le_refl _) _).trans (AD.mono (by simp))
 have AH:w1.cell? ⟨w.heap.size,0,none⟩=some .nilIface:=by
  rw[Lib.cell_of_heap ((AD.block w.heap.size (by simp)).trans (heap_alloc_new w (.cells #[.nilIface] 231)))];rfl
 have AJ:=A0 hb;have AM:Hid (E4 w1 g T AB B.bytes post):=A0 ((hb.block g hg).trans HS.out);have HC:=A0 (A2w w1 g T AB B.bytes post AM.out HR.out.ok.len);rw[AL.out] at HC;clear hb AD HO;go_wp2_with fail
 refine HC.out.mono ?_;rintro e w2 ⟨⟨z,rfl⟩,AE⟩;have AO:w2.cell? ⟨w.heap.size,0,none⟩=some .nilIface:=by obtain⟨nd,rfl⟩:=AE;exact AH
 have AG:Hid (Below w.heap.size w w2):=by obtain⟨nd,rfl⟩:=AE;exact bdn AJ.out nd
 have AA:=(AI.out.carry (AG.out.block g hg));have cm:=O1 w2 g (o+257) 255 B.magic (At.get_magic HR.out.ok AA);have cv:=O1 w2 g (o+263) 249 B.ver (At.get_ver HR.out.ok AA);have ct:=O1 w2 g (o+508) 4 (B.rest.drop 163) (At.get_trailer HR.out.ok AA);rw[HR.out.magic] at cm;rw[HR.out.ver] at cv;rw[HR.out.end4] at ct;simp only[List.length_cons,List.length_nil] at cm cv ct;clear AA AE AH HC;go_wp2_with (first|(go_at_call 107;refine(vu.out _ _).mono ?_;rintro e wx ⟨rfl,rfl⟩)|(go_at_call 178;refine(vs.out _ _).mono ?_;rintro e wx ⟨rfl,rfl⟩)|(go_at_call 182;refine(vm.out _ _ _).mono ?_;rintro e wx ⟨rfl,rfl⟩)|(go_at_call 183;refine(vv.out _ _ _).mono ?_;rintro e wx ⟨rfl,rfl⟩)|(go_at_call 181;refine(vt.out _ _ _).mono ?_;rintro e wx ⟨rfl,rfl⟩))
 go_ret
 exact⟨rfl,AG.out⟩
def A1i (n:Nat) (f:List UInt8) (x:Int):Prop:=(0<=x/\P8 f x.toNat)\/(f=L0 n x/\(n=8\/n=12)/\M2 n x=true/\-9223372036854775808<=x/\x<=9223372036854775807)
theorem A1i.num {n:Nat} {x:Int} (hn:n=8\/n=12) (hx: (B8 n x=true\/M2 n x=true)/\-9223372036854775808<=x/\x<=9223372036854775807):A1i n (D9 n x) x:=by
 unfold D9;by_cases h:B8 n x=true
 ·rw[if_pos h]
  have h2:=A1U h;simp only[B8,decide_eq_true_eq] at h;exact .inl ⟨h.1,P8.field n x.toNat (by omega) (by omega) h2⟩
 ·rw[if_neg h]
  exact .inr ⟨rfl,hn,hx.1.resolve_left h,hx.2.1,hx.2.2⟩
theorem U5 (w:World) (p:Value) (g o n c:Nat) (x:Int) (f:List UInt8) (hf:A1i n f x) (AB:At w g o (Lib.byteCells f)) (hn:f.length=n) (AD:0<n) (AC:n<=c) (AA:c<=9223372036854775807):
  Calls Tryz.prog 199 #[p,.slice (some ⟨g,o,none⟩) n c] w λe w'=>e= .returned (.int .i64 x)/\Below w.heap.size w w':=by
 rcases hf with ⟨h0,hf⟩|⟨rfl,h1,h2,h3,h4⟩
 ·have e: ((x.toNat:Nat):Int)=x:=by omega
  have:=N7 w p g o n c x.toNat f hf AB hn AD AC AA;rwa [e] at this
 ·refine(A7w w p g o n c x h1 h2 h3 h4 AB AC AA).mono ?_
  rintro e w' ⟨rfl,rfl⟩;exact⟨rfl,Below.refl _ _⟩
structure RdW where
 mode:Int
 uid:Int
 gid:Int
 size:Int
 mtime:Int
 maj:Int
 mnr:Int
 ax:Int
 cx:Int
def B3q (f:List UInt8) (x:Int):Prop:=f.length=12/\((f.getD 0 0=0/\x=0)\/(f.getD 0 0≠0/\A1i 12 f (x-62135596800)/\-100000000000000000<=x-62135596800/\x-62135596800<=100000000000000000))
structure RdG (B:C1) (V:RdW):Prop extends RdB8 B where
 mode:A1i 8 B.mode V.mode
 uid:A1i 8 B.uid V.uid
 gid:A1i 8 B.gid V.gid
 size:A1i 12 B.size V.size
 mtime:A1i 12 B.mtime V.mtime
 maj:A1i 8 B.maj V.maj
 mnr:A1i 8 B.mnr V.mnr
 sec: -100000000000000000<=V.mtime/\V.mtime<=100000000000000000
 at':B3q (B.rest.take 12) V.ax
 ct':B3q ((B.rest.drop 12).take 12) V.cx
def A2l (B:C1) (V:RdW):Hd:= {Hd.nil with typ:=J9 B,name:=D4 B.name,link:=D4 B.link,size:=V.size,mode:=V.mode,uid:=V.uid,gid:=V.gid,mx:=V.mtime+62135596800}
def rdG (B:C1) (V:RdW):Hd:= {A2l B V with user:=D4 B.user,group:=D4 B.group,maj:=V.maj,mnr:=V.mnr,fmt:=8,ax:=V.ax,cx:=V.cx}
theorem At.get_at {w:World} {g o:Nat} {B:C1} (AA:B.Ok) (h:At w g o (Lib.byteCells B.bytes)):At w g (o+345) (Lib.byteCells (B.rest.take 12)):=by
 have:=(At.get_rest AA h).take 12;simpa[Lib.byteCells] using this
theorem At.get_ct {w:World} {g o:Nat} {B:C1} (AA:B.Ok) (h:At w g o (Lib.byteCells B.bytes)):At w g (o+357) (Lib.byteCells ((B.rest.drop 12).take 12)):=by
 have:=((At.get_rest AA h).drop 12).take 12;simpa[Lib.byteCells,Nat.add_assoc] using this
end Go.Proofs.YtkanmkcojlefbaaGreatDoor
