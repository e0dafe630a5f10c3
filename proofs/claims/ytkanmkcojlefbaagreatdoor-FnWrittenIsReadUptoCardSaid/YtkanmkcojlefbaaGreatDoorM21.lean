/-
  Part of the proof; holds the texts WPaxT, Iter, Bld, FRec, WPax.
-/
import Derived.Test.YtkanmkcojlefbaaGreatDoorM20
import Derived.Test.YtkanmkcojlefbaaGreatDoorM14
import Derived.Shelf.SlIter.Nil
import Derived.Shelf.SortM.Plain
import Derived.Shelf.SortM.SortNone
import Derived.Lib.CleanLen
import Derived.Lib.ShelfFacts
set_option maxHeartbeats 4000000
set_option maxRecDepth 100000
set_option linter.unusedSimpArgs false
set_option linter.unusedVariables false
namespace Go.Proofs.YtkanmkcojlefbaaGreatDoor
theorem QA:type_of% @Nat.le_of_lt:=@Nat.le_of_lt
open Go.RowKit
noncomputable def B7V:Code:=I2 30 (Tryz.f68.body.getD .skip)
def A7N (n:Nat) (s fld:List UInt8):Prop:=∃s2,A0s s s2/\V9 (List.replicate n 0) s2 fld
def A7s (n:Nat) (x:Int):List UInt8:=C2 n (if B8 n x then x.toNat else 0)
structure A5i (h:Hd) (B:C1):Prop where
 ok:B.Ok
 typ:B.typ=[UInt8.ofNat h.typ.toNat]
 name:A7N 100 h.name B.name
 link:A7N 100 h.link B.link
 user:A7N 32 h.user B.user
 group:A7N 32 h.group B.group
 mode:B.mode=A7s 8 h.mode
 uid:B.uid=A7s 8 h.uid
 gid:B.gid=A7s 8 h.gid
 size:B.size=A7s 12 h.size
 mtime:B.mtime=A7s 12 h.sec
 maj:B.maj=A7s 8 h.maj
 mnr:B.mnr=A7s 8 h.mnr
 magic:B.magic=[117,115,116,97,114,0]
 ver:B.ver=[48,48]
 chk:B.chk=C2 7 (X8 B.bytes 512)++[32]
 rest:B.rest=List.replicate 167 0
def B6q (B tw b AB:Nat) (H:Hd) (bs:List UInt8) (sz:Int) (w w':World):Prop:=
 ∃AA B2,A5i H B2/\W3 B b (bs++List.replicate AB 0++B2.bytes) w'/\TW tw b AA (E7 sz) H.cells (Lib.byteCells B2.bytes) .nilIface w'/\FW AA b sz w'/\w.heap.size<=AA/\AA<w'.heap.size/\Fr B [b,tw] w w'
theorem A7z (G0:Nat) (E:Nat->Addr) (B tw b fw AD:Nat) (H:Hd) (Aj bs:List UInt8) (w:World) (h:WS G0 E B tw b fw AD H Aj bs .nilIface w) (hp:AD<512) (AZ:H.In) (sz:Int) (Au:sz=if D1 H.typ then 0 else H.size) (AP:0<=sz) (Aa:bs.length+AD+512<=140737488355328)
  (R:Ending->World->Prop) (hR:∀w',B6q B tw b AD H bs sz w w'->R (.returned .nilIface) w') {c2 c3 c4 c5 c6 c7 c8 aU aV aW aX aY aZ bA bB bC bD c20 c21 bE bF bH bI bJ bK bL bM bN bO bP bQ bR bS bT c37 bU bV bW bX bY bZ cA cB c46 cC cD cE cF c51 cG c53 cH cI cJ cL cM cO cP cQ cS cT cU cV cW cX cY cZ dA dB dC dD dE c75 dF dG dH dI c80 dJ dL dM dO c85 dP dQ dR dS dT dU dV dW dX dY dZ eA eC eD aA aB aD aF aG aH aI aJ aK aL aM aN aO aP aQ aR aS aT:Value}:
  Code.wp Tryz.prog B7V (bodyPost Tryz.prog Tryz.f68 R) ⟨(.pointer (some ⟨tw,0,none⟩)::.pointer (some ⟨tw,3,none⟩)::c2::c3::c4::c5::c6::c7::c8::.bool false::aU::aV::aW::aX::aY::aZ::bA::bB::bC::bD::c20::c21::bE::bF::bH::bI::bJ::bK::bL::bM::bN::bO::bP::bQ::bR::bS::bT::c37::bU::bV::bW::bX::bY::bZ::cA::cB::c46::cC::cD::cE::cF::c51::cG::c53::cH::cI::cJ::cL::cM::cO::cP::cQ::cS::cT::cU::cV::cW::cX::cY::cZ::dA::dB::dC::dD::dE::c75::dF::dG::dH::dI::c80::dJ::dL::dM::dO::c85::dP::dQ::dR::dS::dT::dU::dV::dW::dX::dY::dZ::eA::eC::eD::aA::aB::aD::aF::aG::aH::aI::aJ::aK::aL::aM::aN::aO::aP::aQ::aR::aS::aT::[]).toArray,[]⟩ w:=by
 conv=>arg 2;whnf
 have AB:=h.below ((zD _ w).alloc (zB _) (.cells #[.nilIface] 196));have AY:=zI w (.cells #[.nilIface] 196)
 have Ao:TB tw b fw AD H.cells w.heap.size .nilIface (E 3) (A4n Aj) (w.alloc (.cells #[.nilIface] 196)):=
  ⟨by rw[A1n _ AB.blk512];exact AB.W,A4o _ AB.blk512,AY,AB.gl.db,AB.gl.err 3 (by decide),by have:=AB.tG;have:=AB.gl.g19;omega,by have:=AB.tG;have:=AB.gl.g19;omega,by have:=h.gl.le;have:=h.gl.g19;omega,by have:=h.gl.le;have:=h.gl.g19;omega⟩
 have hT:=B1Y (w.alloc (.cells #[.nilIface] 196)) tw b fw w.heap.size AD H AZ .nilIface (E 3) _ Ao;have BJ:w.heap.size≠tw:=by have:=A8 h.W.1;omega
 have Aq:G0<=w.heap.size:=h.gl.le;have Al:Fr B [tw] w (w.alloc (.cells #[.nilIface] 196)):=(Fr.refl _ _ w).alloc _;have HT:=A0 hT;have AU:=A0 AB;have Ae:=A0 AY;have Ax:=A0 Al;have Ay:=A0 AZ;have Ah:=A0 Au;have BA:=A0 hR;have BI:=A0 (And.intro h.BG (And.intro h.tG h.bG));have AV:=A0 AP;clear hT AB AY Al AZ Au hR Ao h AP;generalize BF:w.alloc (.cells #[.nilIface] 196)=wa at*;generalize AM:w.heap.size=fb at*;have Aw:=A0 AM;go_wp2_with fail
 refine HT.out.mono ?_;clear AM BF;rintro e w3 ⟨rfl,n2,l2,u2,g2,B2,ferr2,AC,Ap,a1,a2,a3,a4,AX⟩;have AJ:=AU.out.next AX Ae.out Aq AC.W AC.ok.len;have AE:=fun(o:Nat) (ho: (A3S b fw AD H.cells).length=o)=>A0D w3 tw 134 _ _ _ 4 (.inr rfl) AC.ok AC.seg AC.tw15 AC.db;have Ac:=AE 23 AC.pre;rw[AC.pre] at Ac;have Ag:=A0 Ac;have BC:=A0 AJ;have AH:=A0 AC.ok;have Ai:=A0 Ap;have Ad:=A0 AX;have HA:=A0 (And.intro a1 (And.intro a2 (And.intro a3 a4)));have AW:=A0 AC.F;clear Ac AE AJ AC Ap AX a1 a2 a3 a4 HT;go_wp2_with fail
 refine Ag.out.mono ?_;rintro e w5 ⟨rfl,As,Ak⟩;have Av:=AH.out.put_magic [117,115,116,97,114,0] rfl;have AG:B2.ustar.Ok:=Av.put_ver [48,48] rfl;have BE:=A0l B2.ustar.bytes 512;have Ab: (C2 7 (X8 B2.ustar.bytes 512)).length=7:=D2 7 _ (by omega) (by omega);have AR:B2.ustar.summed.Ok:=AG.put_chk _ (by rw[zH,Ab];rfl);have AI:TW tw b fw AD H.cells (Lib.byteCells B2.ustar.summed.bytes) .nilIface w5:=TW.of_seg As rfl AR.len;have AS:Fr wa.heap.size [tw,fb] wa w5:=Ad.out.trans (Ak.wide Ad.out.size (by simp));have AA:=AU.out.next AS Ae.out Aq AI AR.len
 have AL:B2.ustar.summed.chk=C2 7 (X8 B2.ustar.summed.bytes 512)++[32]:=by
  show C2 7 (X8 B2.ustar.bytes 512)++[32]=C2 7 (X8 B2.ustar.summed.bytes 512)++[32]
  rw[show X8 B2.ustar.summed.bytes 512=X8 B2.ustar.bytes 512 from A2F B2.ustar AG (C2 7 (X8 B2.ustar.bytes 512)++[32]) (by rw[zH,Ab];rfl)]
 have An:A5i H B2.ustar.summed:=by
  obtain⟨a1,a2,a3,a4⟩:=HA.out;have t:=Ai.out;exact⟨AR,t.typ,⟨n2,a1,t.name⟩,⟨l2,a2,t.link⟩,⟨u2,a3,t.user⟩,⟨g2,a4,t.group⟩,t.mode,t.uid,t.gid,t.size,t.mtime,t.maj,t.mnr,rfl,rfl,AL,t.rest⟩
 have cs:=AA.hdr 3 (.int .i64 H.size) rfl;have ct:=AA.hdr 0 (.int .u8 H.typ) rfl
 have AQ:sz<=9223372036854775807:=by
  have h1:=Ah.out;have h3:=Ay.out.size;split at h1<;>omega
 have Ar:=X4 w5.drew B tw b fw AD hp bs B2.ustar.summed.bytes H.cells H.size sz H.typ AA.drew.buf AA.drew.Bw AA.drew.W AA.drew.F Aa AV.out AQ Ah.out
 have Am:Fr B [b,tw] w w5.drew:=(((Ax.out.wide (S':=[b,tw,fb]) (zB _) (λk hk _=>by rw[List.mem_singleton.1 hk];simp)).trans (AS.wide (B':=B) (S':=[b,tw,fb]) AU.out.Bw (λk hk _=>List.mem_cons_of_mem _ hk))).wide (zB _) (λk hk BL=>by
   rcases List.mem_cons.1 hk with h|hk
   ·rw[h];simp
   ·rcases List.mem_cons.1 hk with h|hk
    ·rw[h];simp
    ·have:=List.mem_singleton.1 hk;have:=Aw.out;omega)).drew
 have Az:=A0 Ar;have HP:=A0 An;have Af:=A0 Am;clear As Ak Av AG BE Ab AI AS AL Ar An Am Ai HA AH Ag BC AW AR AQ AA;go_wp2_with fail
 go_region_held3 (λw'=>w'.cell? ⟨tw,6,none⟩=some (.int .i64 H.size)/\w'.cell? ⟨tw,3,none⟩=some (.int .u8 H.typ)) (first|go_keep|(refine And.intro ?_ ?_<;>assumption)) (first|(go_at_call 133;refine Az.out.mono ?_;rintro e w6 ⟨rfl,BD,r1,r2,r3,r4,r5,r6⟩;have d0:=(A0S r2 3 (.int .i64 H.size) rfl);have d1:=(A0S r2 0 (.int .u8 H.typ) rfl)))
 have BH:w.heap.size<=w5.drew.heap.size:=Af.out.size;have AO:=BA.out _ ⟨BD,B2.ustar.summed,HP.out,r1,r2,r3,zP BH r4,r5,Af.out.trans (r6.wide (zB _) (λk hk _=>hk))⟩;have AT:=A0 AO;clear AO r1 r2 r3 r4 r5 r6;go_wp2_with fail
 exact AT.out
end Go.Proofs.YtkanmkcojlefbaaGreatDoor
namespace Go.Proofs
open Go.RowKit Go.Maps Go.Sort Go.Shelf
def Tryz.keys135_ren:Go.Shelf.Ren:=⟨fun|7=>135|10=>189|n=>n,fun|23=>127|26=>9|3=>9|28=>206|0=>0|27=>205|33=>56|4=>4|n=>n,fun|n=>n⟩
theorem Tryz.keys135:Go.Proofs.SlLaysZ.n7 Tryz.prog Tryz.keys135_ren:= {
 mixed:=by kernel_rfl
 f7:=⟨Tryz.f135.name,by decide,Tryz.func135.trans (congrArg some (by kernel_rfl))⟩
 f10:=⟨Tryz.f189.name,by decide,Tryz.func189.trans (congrArg some (by kernel_rfl))⟩
 t0:=Tryz.underlying0
 a0:=Tryz.isAgg0
 z0:=Tryz.sizeOf0
 v0:=Tryz.zeroValue0
 t4:=Tryz.underlying4
 a4:=Tryz.isAgg4
 z4:=Tryz.sizeOf4
 v4:=Tryz.zeroValue4
 t23:=Tryz.underlying127
 a23:=Tryz.isAgg127
 z23:=Tryz.sizeOf127
 v23:=Tryz.zeroValue127
 t26:=Tryz.underlying9
 a26:=Tryz.isAgg9
 z26:=Tryz.sizeOf9
 v26:=Tryz.zeroValue9
 t27:=Tryz.underlying205
 a27:=Tryz.isAgg205
 z27:=Tryz.sizeOf205
 v27:=Tryz.zeroValue205
 t28:=Tryz.underlying206
 a28:=Tryz.isAgg206
 z28:=Tryz.sizeOf206
 v28:=Tryz.zeroValue206
 t33:=Tryz.underlying56
 a33:=Tryz.isAgg56
 z33:=Tryz.sizeOf56
 v33:=Tryz.zeroValue56}
def Tryz.sorted134_ren:Go.Shelf.Ren:=⟨fun|6=>134|8=>187|9=>188|11=>228|13=>230|12=>229|23=>274|24=>258|14=>265|15=>266|16=>267|17=>268|18=>269|19=>270|20=>271|21=>272|22=>273|25=>291|26=>292|27=>293|28=>294|29=>295|30=>296|31=>311|n=>n,fun|26=>9|28=>206|24=>54|0=>0|3=>3|37=>167|48=>331|50=>124|4=>4|40=>342|39=>341|45=>346|5=>5|9=>9|51=>363|55=>367|57=>383|58=>384|33=>56|n=>n,fun|n=>n⟩
theorem Tryz.sorted134:Go.Proofs.SlLaysZ.n6 Tryz.prog Tryz.sorted134_ren:= {
 mixed:=by kernel_rfl
 f6:=⟨Tryz.f134.name,by decide,Tryz.func134.trans (congrArg some (by kernel_rfl))⟩
 f8:=⟨Tryz.f187.name,by decide,Tryz.func187.trans (congrArg some (by kernel_rfl))⟩
 f11:=⟨Tryz.f228.name,by decide,Tryz.func228.trans (congrArg some (by kernel_rfl))⟩
 t0:=Tryz.underlying0
 a0:=Tryz.isAgg0
 z0:=Tryz.sizeOf0
 v0:=Tryz.zeroValue0
 t24:=Tryz.underlying54
 a24:=Tryz.isAgg54
 z24:=Tryz.sizeOf54
 v24:=Tryz.zeroValue54
 t26:=Tryz.underlying9
 a26:=Tryz.isAgg9
 z26:=Tryz.sizeOf9
 v26:=Tryz.zeroValue9
 t28:=Tryz.underlying206
 a28:=Tryz.isAgg206
 z28:=Tryz.sizeOf206
 v28:=Tryz.zeroValue206
 i26:=by kernel_rfl}
def Tryz.sort188_ren:Go.Shelf.Ren:=⟨fun|6=>188|8=>230|9=>229|19=>274|20=>258|21=>265|22=>266|23=>267|24=>268|25=>269|26=>270|27=>271|28=>272|29=>273|36=>291|31=>292|32=>293|37=>294|38=>295|39=>296|41=>311|n=>n,fun|27=>54|29=>9|3=>3|32=>167|26=>54|0=>0|44=>331|46=>124|4=>4|36=>342|35=>341|41=>346|5=>5|9=>9|53=>363|57=>367|63=>383|64=>384|n=>n,fun|n=>n⟩
theorem Tryz.sort188:Go.Proofs.SlLaysM.n6 Tryz.prog Tryz.sort188_ren:= {
 mixed:=by kernel_rfl
 f6:=⟨Tryz.f188.name,by decide,Tryz.func188.trans (congrArg some (by kernel_rfl))⟩
 f8:=Tryz.func230.trans (congrArg some (by kernel_rfl))
 f9:=⟨Tryz.f229.name,by decide,Tryz.func229.trans (congrArg some (by kernel_rfl))⟩
 f19:=Tryz.func274.trans (congrArg some (by kernel_rfl))
 f20:=Tryz.func258.trans (congrArg some (by kernel_rfl))
 f21:=⟨Tryz.f265.name,by decide,Tryz.func265.trans (congrArg some (by kernel_rfl))⟩
 f22:=⟨Tryz.f266.name,by decide,Tryz.func266.trans (congrArg some (by kernel_rfl))⟩
 f23:=⟨Tryz.f267.name,by decide,Tryz.func267.trans (congrArg some (by kernel_rfl))⟩
 f24:=⟨Tryz.f268.name,by decide,Tryz.func268.trans (congrArg some (by kernel_rfl))⟩
 f25:=⟨Tryz.f269.name,by decide,Tryz.func269.trans (congrArg some (by kernel_rfl))⟩
 f26:=⟨Tryz.f270.name,by decide,Tryz.func270.trans (congrArg some (by kernel_rfl))⟩
 f27:=⟨Tryz.f271.name,by decide,Tryz.func271.trans (congrArg some (by kernel_rfl))⟩
 f28:=⟨Tryz.f272.name,by decide,Tryz.func272.trans (congrArg some (by kernel_rfl))⟩
 f29:=⟨Tryz.f273.name,by decide,Tryz.func273.trans (congrArg some (by kernel_rfl))⟩
 f31:=Tryz.func292.trans (congrArg some (by kernel_rfl))
 f32:=Tryz.func293.trans (congrArg some (by kernel_rfl))
 f36:=⟨Tryz.f291.name,by decide,Tryz.func291.trans (congrArg some (by kernel_rfl))⟩
 f37:=⟨Tryz.f294.name,by decide,Tryz.func294.trans (congrArg some (by kernel_rfl))⟩
 f38:=⟨Tryz.f295.name,by decide,Tryz.func295.trans (congrArg some (by kernel_rfl))⟩
 f39:=⟨Tryz.f296.name,by decide,Tryz.func296.trans (congrArg some (by kernel_rfl))⟩
 f41:=⟨Tryz.f311.name,by decide,Tryz.func311.trans (congrArg some (by kernel_rfl))⟩
 t0:=Tryz.underlying0
 a0:=Tryz.isAgg0
 z0:=Tryz.sizeOf0
 v0:=Tryz.zeroValue0
 t3:=Tryz.underlying3
 a3:=Tryz.isAgg3
 z3:=Tryz.sizeOf3
 v3:=Tryz.zeroValue3
 t4:=Tryz.underlying4
 a4:=Tryz.isAgg4
 z4:=Tryz.sizeOf4
 v4:=Tryz.zeroValue4
 t5:=Tryz.underlying5
 a5:=Tryz.isAgg5
 z5:=Tryz.sizeOf5
 v5:=Tryz.zeroValue5
 t9:=Tryz.underlying9
 a9:=Tryz.isAgg9
 z9:=Tryz.sizeOf9
 v9:=Tryz.zeroValue9
 t26:=Tryz.underlying54
 a26:=Tryz.isAgg54
 z26:=Tryz.sizeOf54
 v26:=Tryz.zeroValue54
 t27:=Tryz.underlying54
 a27:=Tryz.isAgg54
 z27:=Tryz.sizeOf54
 v27:=Tryz.zeroValue54
 t29:=Tryz.underlying9
 a29:=Tryz.isAgg9
 z29:=Tryz.sizeOf9
 v29:=Tryz.zeroValue9
 t32:=Tryz.underlying167
 a32:=Tryz.isAgg167
 z32:=Tryz.sizeOf167
 v32:=Tryz.zeroValue167
 t35:=Tryz.underlying341
 a35:=Tryz.isAgg341
 z35:=Tryz.sizeOf341
 v35:=Tryz.zeroValue341
 t36:=Tryz.underlying342
 a36:=Tryz.isAgg342
 z36:=Tryz.sizeOf342
 v36:=Tryz.zeroValue342
 t41:=Tryz.underlying346
 a41:=Tryz.isAgg346
 z41:=Tryz.sizeOf346
 v41:=Tryz.zeroValue346
 t44:=Tryz.underlying331
 a44:=Tryz.isAgg331
 z44:=Tryz.sizeOf331
 v44:=Tryz.zeroValue331
 t46:=Tryz.underlying124
 a46:=Tryz.isAgg124
 z46:=Tryz.sizeOf124
 v46:=Tryz.zeroValue124
 t53:=Tryz.underlying363
 a53:=Tryz.isAgg363
 z53:=Tryz.sizeOf363
 v53:=Tryz.zeroValue363
 t57:=Tryz.underlying367
 a57:=Tryz.isAgg367
 z57:=Tryz.sizeOf367
 v57:=Tryz.zeroValue367
 t63:=Tryz.underlying383
 a63:=Tryz.isAgg383
 z63:=Tryz.sizeOf383
 v63:=Tryz.zeroValue383
 t64:=Tryz.underlying384
 a64:=Tryz.isAgg384
 z64:=Tryz.sizeOf384
 v64:=Tryz.zeroValue384}
theorem Tryz.sorts134 (m:Nat):AnyZ.SortsIn Tryz.prog Tryz.sorted134_ren Fence.wide m:=
 ⟨λAB AD cap ss W hH AA AC=>callsIn_wide.2 (AnyM.slices_Sort_string Tryz.sort188 AB AD cap ss W hH AA AC),
  λp cap W=>callsIn_wide.2 (AnyM.slices_Sort_string_none Tryz.sort188 p cap W)⟩
theorem Tryz.maps_Keys_135 (mb:Option Nat) (W:World):CallsIn Fence.wide 5 Tryz.prog 135 #[.map mb] W λe w'=>e= .returned (.func (.func 189) #[] #[.pointer (some ⟨W.heap.size,0,none⟩)])/\w'=W.alloc (.cells #[.map mb] 127):=
 AnyZ.keys_in Tryz.keys135 Fence.wide 5 trivial rfl mb W
theorem Tryz.slices_Sorted_keys_134_135 {H:Type} (b nn:Nat) (D0:DataW H) (R:Value->Option (DataW H×List MemPlace)) (w:World) (AC:w.ownsMap Tryz.prog 9 R b nn D0) (AD:Maps.size D0<=maxLen) (AA:Maps.size D0*16<=140737488355328):
  CallsIn Fence.wide 5 Tryz.prog 134 #[.func (.func 189) #[] #[.pointer (some ⟨w.heap.size,0,none⟩)]] (w.alloc (.cells #[.map (some b)] 127)) λe w'=>∃ (v:Value) (ss:List (List UInt8)),e= .returned v/\ss.Perm (strKeys D0)/\
   w'.ownsRow (w.alloc (.cells #[.map (some b)] 127)).heap.size 9 1 v ss.length ((ss.mergeSort (λx y=>decide (x<=y))).map encStr)/\(v= .slice none 0 0↔ss=[])/\Below (w.alloc (.cells #[.map (some b)] 127)).heap.size (w.alloc (.cells #[.map (some b)] 127)) w':=by
 have AG:=AC.lt
 have AE:SeqGives Fence.wide 2 Tryz.prog 189 #[.pointer (some ⟨w.heap.size,0,none⟩)] encStr (λss=>ss.Perm (strKeys D0)) (Maps.size D0) (w.alloc (.cells #[.map (some b)] 127)):=
  AnyZ.keys_gives (ρ:=Tryz.keys135_ren) {Tryz.keys135 with} Fence.wide _ trivial rfl (by omega) w.heap.size b nn D0 _ (by simp) (by simp) (by
   obtain⟨es,AB,hb,Ft,hs,hD⟩:=AC;exact⟨es,AB,(Below.heap_alloc _ _ b AG).trans hb,Ft,hs,hD⟩)
 exact AnyZ.sorted_in Tryz.sorted134 Fence.wide 5 trivial trivial trivial trivial rfl (by omega) (Tryz.sorts134 _) (enters_of Tryz.func188 (by kernel_rfl) rfl) 189 #[.pointer (some ⟨w.heap.size,0,none⟩)] trivial (enters_of Tryz.func189 (by kernel_rfl) rfl) _ _ AD AA _ AE
end Go.Proofs
namespace Go.Proofs.YtkanmkcojlefbaaGreatDoor
open Go.RowKit Go.Maps Go.Sort Go.Shelf Go.WideMaps Go.ChangeMaps
theorem A5A {w:World} {b n:Nat} {D:DataW Unit} (h:w.ownsMap Tryz.prog 9 (plainElem Tryz.prog 9) b n D):∃es,D= .map es/\∀p∈es,∃kk,p.1= .string kk:=by
 obtain⟨es,he,AE,hk⟩:=h.entries A4x;refine⟨es,he,λp hp=> ?_⟩;obtain⟨AB,AA,h3,F,h4,h5⟩:=h
 have hp:p∈(AB.toList.map (Go.WideElems.rg Tryz.prog 9 (plainElem Tryz.prog 9))):=by
  rw[he] at h5;have h6: (DataW.map es:DataW Unit)=_:=h5;injection h6 with h6
  rw[<-Go.mem_sorted,<-h6];exact hp
 obtain⟨k,AC⟩:=fit_keys F p hp;obtain⟨kk,rfl,AD,-⟩:=A1Q AC;exact⟨kk,AD⟩
theorem B2c {w:World} {b n:Nat} {D:DataW Unit} {m:List UInt8->Option (List UInt8)} (h:w.ownsMap Tryz.prog 9 (plainElem Tryz.prog 9) b n D) (hr:A4i D m) (k:List UInt8):k∈strKeys D↔m k≠none:=by
 obtain⟨es,rfl,hs⟩:=A5A h;have hk:=hr k
 have AB:k∈strKeys (.map es:DataW Unit)↔has (.map es:DataW Unit) (.string k)=true:=by
  rw[has_eq,List.any_eq_true];show k∈es.map (λp=>strOf p.1)↔_
  rw[List.mem_map];constructor
  ·rintro⟨p,hp,rfl⟩
   obtain⟨kk,AA⟩:=hs p hp;exact⟨p,hp,by rw[AA];simp[strOf,Lit.sameKey]⟩
  ·rintro⟨p,hp,he⟩
   obtain⟨kk,AA⟩:=hs p hp;refine⟨p,hp,?_⟩;rw[AA] at he⊢;simpa[strOf,Lit.sameKey] using he
 rw[AB];cases hm:m k with
 |none=>rw[hm] at hk;simp only at hk;rw[hk];simp
 |some v=>rw[hm] at hk;simp only at hk;rw[hk.1];simp
theorem A9F {w:World} {b n:Nat} {D:DataW Unit} (h:w.ownsMap Tryz.prog 9 (plainElem Tryz.prog 9) b n D): (strKeys D).Nodup:=by
 obtain⟨es,he,AB,hk⟩:=h.entries A4x;obtain⟨AC,AA,hs⟩:=A5A h;rw[he] at AA;injection AA with AA
 subst AA;rw[he];show(es.map (λp=>strOf p.1)).Nodup
 unfold List.Nodup;rw[List.pairwise_map];refine AB.imp_of_mem (λ{p q} hp hq hne he=>hne ?_);obtain⟨kp,e1⟩:=hs p hp;obtain⟨kq,e2⟩:=hs q hq;rw[e1,e2] at he⊢;simpa[strOf] using he
theorem A9Y (w:World) (mb n:Nat) (m:List UInt8->Option (List UInt8)) (h:M9 w mb n m) (hn:n<=8589934592):
  Calls Tryz.prog 134 #[.func (.func 189) #[] #[.pointer (some ⟨w.heap.size,0,none⟩)]] (w.alloc (.cells #[.map (some mb)] 127)) λe w'=>∃ (v:Value) (ks:List (List UInt8)),e= .returned v/\ks.length<=n/\ks.Nodup/\(∀k,k∈ks↔m k≠none)/\w'.ownsRow (w.heap.size+1) 9 1 v ks.length (ks.map str)/\Below (w.heap.size+1) (w.alloc (.cells #[.map (some mb)] 127)) w':=by
 obtain⟨D,h1,h2⟩:=h;have AD:=A7B h1;refine(callsIn_wide.1 (Tryz.slices_Sorted_keys_134_135 mb n D _ w h1 (by unfold maxLen;omega) (by omega))).mono ?_;rintro e w' ⟨v,ss,rfl,hp,AA,AC,hb⟩;have hs: (w.alloc (.cells #[.map (some mb)] 127)).heap.size=w.heap.size+1:=Array.size_push ..;rw[hs] at AA hb;have hl: (ss.mergeSort (λx y=>decide (x<=y))).length=ss.length:=(List.mergeSort_perm ..).length_eq
 have AB:ss.length=Maps.size D:=by
  obtain⟨es,rfl,-⟩:=A5A h1;rw[hp.length_eq];show(es.map _).length=_
  rw[List.length_map];rfl
 refine⟨v,ss.mergeSort (λx y=>decide (x<=y)),rfl,by rw[hl];omega,(List.mergeSort_perm ..).nodup_iff.2 (hp.nodup_iff.2 (A9F h1)),λk=> ?_,by rw[hl];exact AA,hb⟩;rw[(List.mergeSort_perm ..).mem_iff,hp.mem_iff];exact B2c h1 h2 k
theorem B2m (w:World) (mb:Nat):Calls Tryz.prog 135 #[.map (some mb)] w λe w'=>e= .returned (.func (.func 189) #[] #[.pointer (some ⟨w.heap.size,0,none⟩)])/\w'=w.alloc (.cells #[.map (some mb)] 127):=
 callsIn_wide.1 (Tryz.maps_Keys_135 (some mb) w)
end Go.Proofs.YtkanmkcojlefbaaGreatDoor
namespace Go.Proofs.YtkanmkcojlefbaaGreatDoor
open Go.RowKit Go.Shelf
theorem B5f:Go.Proofs.Lays.n166 Tryz.prog Tryz.lays105_ren:= {Tryz.lays105 with}
theorem B5g:Go.Proofs.Lays.n169 Tryz.prog Tryz.lays105_ren:= {Tryz.lays105 with}
theorem B1x (B b:Nat) (bs:List Value) (s:ByteArray) (w:World) (h:Lib.IsBuilderF 203 5 B b bs w) (AA:bs.length+s.size<=140737488355328) (AB:B<=w.heap.size):
  Calls Tryz.prog 137 #[.pointer (some ⟨b,0,none⟩),.string s] w λe w'=>e= .returned (.tuple #[.int .i64 s.size,.nilIface])/\(Lib.BuilderAtF 203 5 B b (.pointer (some ⟨b,0,none⟩)) (bs++Lib.strCells s) w'/\Below B w w'/\Lib.OthersKept 5 (some b) w w'):=Any.Builder_WriteString_k B5f Tryz.Builder_Extra_105 B b bs s w h AA AB
theorem B0T (B b:Nat) (l:List UInt8) (w:World) (h:Lib.IsBuilderF 203 5 B b (Lib.byteCells l) w) (AA:B<=w.heap.size):
  Calls Tryz.prog 140 #[.pointer (some ⟨b,0,none⟩)] w λe w'=>e= .returned (.string ⟨l.toArray⟩)/\(Lib.IsBuilderF 203 5 B b (Lib.byteCells l) w'/\Below B w w'/\Lib.OthersKept 5 (some b) w w'):=Any.Builder_String_any_k B5g Tryz.Builder_Extra_105 B b l w h AA
end Go.Proofs.YtkanmkcojlefbaaGreatDoor
namespace Go.Proofs.YtkanmkcojlefbaaGreatDoor
open Go.RowKit Go.Lib
theorem B2b {G0:Nat} {E:Nat->Addr} (w:World) (h:Gl G0 E w) (x:Int) (n:Nat) (hx:x=n) (h1:n<=9223372036854775807):
  Calls Tryz.prog 190 #[.int .i64 x] w λe w'=>e= .returned (str (decDigits n))/\Below w.heap.size w w':=by
 subst hx;have:=B2a w h n (by omega) (by omega);rw[A2H _ (by omega)] at this;exact this
theorem B5Q {G0:Nat} {E:Nat->Addr} (w:World) (h:Gl G0 E w) (k v:List UInt8) (hk:k.length<=16777216) (hv:v.length<=16777216) (AD:F0 k v=true):
  Calls Tryz.prog 136 #[str k,str v] w λe w'=>e= .returned (.tuple #[str (X6 k v),.nilIface])/\Below w.heap.size w w':=by
 have AB:=A0c w k v (by omega) (by omega) AD;have HG:=A0 h;have AE:K8 k v=if k.length+v.length+3+nDigits (k.length+v.length+3+nDigits (k.length+v.length+3))=k.length+v.length+3+nDigits (k.length+v.length+3) then k.length+v.length+3+nDigits (k.length+v.length+3) else k.length+v.length+3+nDigits (k.length+v.length+3+nDigits (k.length+v.length+3)):=rfl
 generalize hn:k.length+v.length+3=n at AE;generalize hm:n+nDigits n=m at AE;have AS:nDigits n<=11:=I4 n 10 (by omega);have AT:nDigits m<=11:=I4 m 10 (by omega);have HN:=A0 hn;have HM:=A0 hm;have AQ:=A0 AE;have AO:=A0 AS;have AH:=A0 AT;clear h AD hn hm AE AS AT;go_enter Tryz.func136,Tryz.ntmps136
 go_wp2_with fail
 refine AB.mono ?_;rintro e w' ⟨rfl,rfl⟩;clear AB;go_wp2_with fail
 refine(B2b _ HG.out _ n (by have:=HN.out;omega) (by have:=HN.out;omega)).mono ?_;rintro e w1 ⟨rfl,AI⟩;have AU:=HG.out.below AI;have AM:=A0 AI;have AP:=A0 AU;clear AI AU;have AZ: (decDigits n).length<=11:=by rw[decDigits_length];exact AO.out
 go_wp2_with fail
 refine(B2b _ AP.out _ m (by have:=HN.out;have:=HM.out;rw[decDigits_length];omega) (by have:=AO.out;have:=HM.out;have:=HN.out;omega)).mono ?_;rintro e w2 ⟨rfl,AJ⟩;have AV:=AP.out.below AJ;have AG:=A0 (AM.out.trans (AJ.mono AM.out.size));have AX:=A0 AV;clear AJ AV;have Aa: (decDigits m).length<=11:=by rw[decDigits_length];exact AH.out
 have AC:∀d:List UInt8,(Value.string ({data:=d.toArray}++ {data:=#[32]}++ {data:=k.toArray}++ {data:=#[61]}++ {data:=v.toArray}++ {data:=#[10]}))=str (d++(32::(k++(61::(v++[10]))))):=by
  intro d;show Value.string _=Value.string _
  congr 1
  apply ByteArray.ext;simp[ByteArray.data_append]
 have HC:=A0 AC;clear AC;go_wp2_with fail
 ·have AA:¬((↑(decDigits m).length:Int)+1+ ↑k.length+1+ ↑v.length+1 != ↑k.length+ ↑v.length+3+ ↑(decDigits n).length)=false:=by simp_all
  refine(B2b _ AX.out _ (n+nDigits m) (by have:=HN.out;rw[decDigits_length];omega) (by have:=AH.out;have:=HN.out;omega)).mono ?_;rintro e w3 ⟨rfl,AR⟩;have AW:=A0 (AG.out.trans (AR.mono AG.out.size));have AY:=A0 AA
  have Ab: (decDigits (n+nDigits m)).length<=20:=by
   rw[decDigits_length];have:=I4 (n+nDigits m) 10 (by have:=AH.out;have:=HN.out;omega);omega
  clear AR AA;go_wp2_with fail
  go_ret2
  refine⟨?_,AW.out⟩;have AA:=AY.out
  have AL:¬(n+nDigits m=m):=by
   have:=HN.out;have:=HM.out;rw[bne_eq_false_iff_eq,decDigits_length,decDigits_length] at AA;intro h;apply AA;omega
  have e:=AQ.out;rw[if_neg AL] at e;rw[HC.out,X6,e];rfl
 ·rename_i AA
  go_ret2
  refine⟨?_,AG.out⟩
  have AL:n+nDigits m=m:=by
   have:=HN.out;have:=HM.out;rw[bne_eq_false_iff_eq,decDigits_length,decDigits_length] at AA;omega
  have e:=AQ.out;rw[if_pos AL] at e;rw[HC.out,X6,e];rfl
end Go.Proofs.YtkanmkcojlefbaaGreatDoor
namespace Go.Proofs.YtkanmkcojlefbaaGreatDoor
open Go.RowKit Go.Proofs Go.Lib
theorem A3x {T e:TypeId} {B b:Nat} {p:Value} {bs:List Value} {w w':World} (h:Lib.BuilderAtF T e B b p bs w) (f:Below w.heap.size w w'):Lib.BuilderAtF T e B b p bs w':=by
 obtain⟨hB,v,hb,⟨hl,ho⟩,AA⟩:=h;refine⟨hB,v,(f.block b (A8 hb)).trans hb,⟨hl,?_⟩,AA⟩;rcases ho with h|⟨g,cap,cur,fz,h1,h2,h3,h4⟩
 ·exact .inl h
 ·exact .inr ⟨g,cap,cur,fz,h1,h2,(f.block g (A8 h3)).trans h3,h4⟩
theorem A3X {T e:TypeId} {B b:Nat} {bs:List Value} {w w':World} (h:Lib.IsBuilderF T e B b bs w) (f:Below w.heap.size w w'):Lib.IsBuilderF T e B b bs w':=
 h.imp (λh=>A3x h f) (λh=>A3x h f)
theorem B3s (w:World):Lib.IsBuilderF 203 5 w.heap.size w.heap.size [] (w.alloc (.cells #[.pointer none,.slice none 0 0] 203)):=
 .inl ⟨zB _,.slice none 0 0,zI w _,⟨by simp,.inl ⟨rfl,rfl⟩⟩,by simp[Value.ownBlock]⟩
def PX (m:KV) (X:List UInt8):Prop:=((∀k,m k=none)/\X=[])\/∃R L,B0Q 120 (D7 L).length R/\(∀p∈L,m p.1=some p.2)/\(∀k,m k≠none->k∈L.map (·.1))/\L≠ []/\(D7 L).length<=1048576/\X=R.bytes++D7 L++List.replicate (E7 (D7 L).length).toNat 0
def B7x (B tw b AB:Nat) (H:Hd) (m:KV) (bs:List UInt8) (sz:Int) (w:World) (e:Ending) (w':World):Prop:=
 e= .returned .nilIface/\∃AA B2 X,A5i H B2/\PX m X/\W3 B b (bs++List.replicate AB 0++X++B2.bytes) w'/\TW tw b AA (E7 sz) H.cells (Lib.byteCells B2.bytes) .nilIface w'/\FW AA b sz w'/\w.heap.size<=AA/\AA<w'.heap.size/\Fr B [b,tw] w w'
def GX (m:KV) (AA:List UInt8) (pd:Nat):Prop:=∃R L,B0Q 103 (D7 L).length R/\(∀p∈L,m p.1=some p.2)/\(∀k,m k≠none->k∈L.map (·.1))/\L≠ []/\(D7 L).length<=1048576/\AA=R.bytes++D7 L/\pd=(E7 (D7 L).length).toNat
def C0z (B tw b AE:Nat) (m:KV) (bs:List UInt8) (w:World) (e:Ending) (w':World):Prop:=
 e= .returned .nilIface/\∃AB AC AA AD pd,GX m AD pd/\W3 B b (bs++List.replicate AE 0++AD) w'/\TW tw b AB (pd:Nat) AC (Lib.byteCells AA) .nilIface w'/\AA.length=512/\FW AB b 0 w'/\w.heap.size<=AB/\AB<w'.heap.size/\Fr B [b,tw] w w'
def A2T (m:KV) (ks:List (List UInt8)):List (List UInt8×List UInt8):=ks.map λk=>(k,(m k).getD [])
def B1n (m:KV) (ks:List (List UInt8)) (bb g:Nat) (cur:Array Value) (i:Nat) (w0 wr:World):Prop:=
 i<=ks.length/\Lib.IsBuilderF 203 5 bb bb (Lib.byteCells (D7 (A2T m (ks.take i)))) wr/\Below bb w0 wr/\wr.heap[g]?=some (.cells cur 9 (0,0))/\bb<wr.heap.size
theorem B1E (m:KV) (ks:List (List UInt8)) (i:Nat) (hi:i<ks.length):D7 (A2T m (ks.take (i+1)))=D7 (A2T m (ks.take i))++X6 ks[i] ((m ks[i]).getD []):=by
 rw[zU hi,A2T,A2T,List.map_append,A6Q];simp[D7]
theorem A8G (m:KV) (ks:List (List UInt8)) (h:∀k,k∈ks↔m k≠none): (∀p∈A2T m ks,m p.1=some p.2)/\∀k,m k≠none->k∈(A2T m ks).map (·.1):=by
 have e: (A2T m ks).map (·.1)=ks:=by simp[A2T,Function.comp_def]
 refine⟨λp hp=> ?_,λk hk=>by rw[e];exact(h k).2 hk⟩;obtain⟨k,hk,rfl⟩:=List.mem_map.1 hp;have:=(h k).1 hk;cases hm:m k with
 |none=>exact absurd hm this
 |some v=>rfl
theorem A8H (m:KV) (ks:List (List UInt8)) (hn:ks.Nodup) (h:∀k,k∈ks↔m k≠none) (hs:∀L:List (List UInt8×List UInt8),(L.map (·.1)).Nodup->(∀p∈L,m p.1=some p.2)->(D7 L).length<=1048576) (i:Nat): (D7 (A2T m (ks.take i))).length<=1048576:=by
 refine hs _ ?_ (λp hp=>(A8G m ks h).1 p ?_)
 ·have e: (A2T m (ks.take i)).map (·.1)=ks.take i:=by simp[A2T,Function.comp_def]
  rw[e];exact(List.take_sublist i ks).nodup hn
 ·obtain⟨k,hk,rfl⟩:=List.mem_map.1 hp
  exact List.mem_map.2 ⟨k,List.mem_of_mem_take hk,rfl⟩
theorem B3e (G0:Nat) (E:Nat->Addr) (B tw b fw AJ mb n:Nat) (H:Hd) (Az bs:List UInt8) (m:KV) (w:World) (h:WS G0 E B tw b fw AJ H Az bs .nilIface w) (hp:AJ<512) (Bm:H.In) (Cd:H.name.length<=600000) (hg:H.typ=103->H.name=[]/\∃k,m k≠none) (hm:M9 w mb n m) (hn:n<=8589934592) (Av:∀k v,m k=some v->F0 k v=true/\k.length<=1048576/\v.length<=1048576)
  (As:∀L:List (List UInt8×List UInt8),(L.map (·.1)).Nodup->(∀p∈L,m p.1=some p.2)->(D7 L).length<=1048576) (sz:Int) (AL:sz=if D1 H.typ then 0 else H.size) (Au:0<=sz) (CO:bs.length+AJ+4194304<=140737488355328):
  Calls Tryz.prog 68 #[.pointer (some ⟨tw,0,none⟩),.pointer (some ⟨tw,3,none⟩),.map (some mb)] w λe w'=>(H.typ≠103/\B7x B tw b AJ H m bs sz w e w')\/(H.typ=103/\C0z B tw b AJ m bs w e w'):=by
 have c1:=h.hdr 1 (str H.name) rfl;have c3:=h.hdr 3 (.int .i64 H.size) rfl;have c0:=h.hdr 0 (.int .u8 H.typ) rfl;obtain⟨gb,BO⟩:∃gb,(H.typ==103)=gb:=⟨_,rfl⟩;have BH:=A0 BO;have HG:=A0 hg;obtain⟨c,Bi,Cb,Bj⟩:=(hm.below ((zD _ w).drew):M9 w.drew mb n m).len_run;have Cc:=Bi 3;have HH:=A0 h;have BZ:=A0 Bm;have HM:=A0 hm;have BJ:=A0 Av;have Ad:=A0 As;have Bc:=A0 AL;have Ae:=A0 Au;have BF:=A0 Bj;clear h Bm hm Av As AL Au hg Bi Bj;go_enter Tryz.func68,Tryz.ntmps68
 go_wp2_with fail
 go_region
 go_upto_region 4 with fail
 rename_i K1 Bd K2 Ca;have HK:=A0 Bd;clear Bd;by_cases hz:c=0
 ·subst hz
  have BT:H.typ≠103:=λe=>by
   obtain⟨-,k,hk⟩:=HG.out e;exact hk (BF.out.1 (by first|rfl|trivial) k)
  obtain rfl:gb=false:=by rw[<-BH.out];rw[zG];exact BT
  have BI:=A0 BT;clear BT;go_wp2_with fail
  refine HK.out _ _ ?_;refine A7z G0 E B tw b fw AJ H Az bs w.drew HH.out.drew hp BZ.out sz Bc.out Ae.out (by omega) _ (λw' hT=> ?_);obtain⟨Af,B2,t1,t2,t3,t4,t5,t6,t7⟩:=hT;exact .inl ⟨BI.out,rfl,Af,B2,[],t1,.inl ⟨BF.out.1 (by first|rfl|trivial),rfl⟩,by rw[QH];exact t2,t3,t4,t5,t6,((Fr.refl _ _ w).drew).trans t7⟩
 ·have CX:0<c:=by omega
  have Ce:decide (0<c)=true:=zY CX;have BM:=B3s w.drew;have BV: ((w.drew).alloc (.cells #[.pointer none,.slice none 0 0] 203)).heap.size=w.heap.size+1:=Array.size_push ..;have BA:Below w.heap.size w ((w.drew).alloc (.cells #[.pointer none,.slice none 0 0] 203)):=(zD _ w).drew.alloc (zB _) _;have Aw: (w.alloc (.cells #[.pointer none,.slice none 0 0] 203)).drew=(w.drew).alloc (.cells #[.pointer none,.slice none 0 0] 203):=rfl;rw[<-Aw] at BM BV BA;clear Aw;generalize CW: (w.alloc (.cells #[.pointer none,.slice none 0 0] 203)).drew=wA at*;have Bq:=HM.out.below BA;have Bb:=A0 (A9Y wA mb n m Bq hn);have CH:Hid (Lib.IsBuilderF 203 5 w.heap.size w.heap.size [] wA):=A0 BM;have BE:=A0 BA;have Ay:=A0 BV;have mK:=A0 (B2m wA mb);clear BM BV BA Bq;go_wp2_with fail
  refine mK.out.mono ?_;clear CW;rintro e w1 ⟨rfl,rfl⟩;go_wp2_with fail
  refine Bb.out.mono ?_;rintro e w2 ⟨v,ks,rfl,CM,Bs,AX,BU,BL⟩
  have AW:ks.length≠0:=by
   intro h0;have:ks=[]:=List.eq_nil_of_length_eq_zero h0;subst this
   exact hz (BF.out.2 (λk=>by
    cases CQ:m k with
    |none=>rfl
    |some v=>have:=(AX k).2 (by rw[CQ];simp);simp at this))
  obtain⟨CT,CU⟩:=BU;rcases CU with ⟨-,h0⟩|⟨g,cap,cur,rfl,BP,AP,Ar,CJ,Bk,By⟩
  ·exact absurd h0 AW
  have AR:Below w.heap.size wA w2:=by
   refine((zD w.heap.size wA).alloc (by rw[Ay.out];omega) _).trans (BL.mono (by rw[Ay.out];omega))
  have Ak:=A3X CH.out (((zD wA.heap.size wA).alloc (zB _) _).trans (BL.mono (by omega)));have Be:B1n m ks w.heap.size g cur 0 wA w2:=⟨zW _,by rw[List.take_zero];exact Ak,AR,AP,by have:=AR.size;rw[Ay.out] at this;omega⟩;have CC:=A0 Be;have AE:=A0 AX;have Ba:=A0 Bs;have CF:=A0 By;have CY:=A0 Bk;have CN:ks.length<=8589934592:=by omega
  have BO:g≠w.heap.size:=by have:=Ay.out;omega
  clear Be AX Bs By CT BL AP AR Ak Bk CM BP Bb mK;have BS:ks.length<=cap:=Ar;go_wp2_with fail
  go_loopw [49] (λs49 wr=>∃i:Nat,s49= .int .i64 i/\Hid (B1n m ks w.heap.size g cur i wA wr)) (λs49 _=>ks.length- (intOf s49).toNat)
  case atStart=>exact⟨0,rfl,CC⟩
  case round=>
   obtain⟨i,rfl,hrel⟩:=hrel;obtain⟨hi,AS,AT,AP,AL⟩:=hrel.out;by_cases Ap:i<ks.length
   ·have ck:wr.cell? ⟨g,i,none⟩=some (str ks[i]):=by
     rw[zA AP]
     have h1: (cur.toList.take (ks.length*1))[i]?=some (str ks[i]):=by
      rw[CF.out,List.getElem?_map,zF Ap];rfl
     rw[List.getElem?_take,if_pos (by omega)] at h1;rw[<-h1,Array.getElem?_toList]
    have AU:Below w.heap.size w wr:=BE.out.trans AT;have Bl:=HH.out.gl.below AU;have Bp:=HM.out.below AU;obtain⟨v,hv⟩:∃v,m ks[i]=some v:=Option.ne_none_iff_exists'.1 ((AE.out ks[i]).1 (List.getElem_mem Ap));obtain⟨q1,q2,q3⟩:=BJ.out _ _ hv;have BW:=B1E m ks i Ap;rw[hv] at BW;have Bg:=A8H m ks Ba.out AE.out Ad.out i;generalize hk:ks[i]=k at*;have BQ:=Bp.look1 A0p k (by omega);rw[hv] at BQ;have BR: (Instr.lookup 127 (.map (some mb)) (str k) false).run Tryz.prog wr= .ok (str v) wr:=BQ;have Ab:=A0 (B5Q wr Bl k v (by omega) (by omega) q1);have Bu:=A3l k v (by omega);have CE:=A0 BW;have AZ:=A0 AS;have Aa:=A0 AT;have BY:=A0 AP;have HV:=A0 hv;have CZ:=A0 hk;have AA:=A0 AL;have CD:=A0 (show(X6 k v).length<=k.length+v.length+14 by rw[P7];exact Bu);have Bz:=A0 Bg;clear hrel AS AT AP AL AU Bl Bp hv q1 BW Bg BQ hk Bu;go_wp2_with fail
    refine Ab.out.mono ?_;rintro e w4 ⟨rfl,BC⟩;have AM:=A0 (B1x w.heap.size w.heap.size _ ⟨(X6 k v).toArray⟩ w4 (A3X AZ.out BC) (by rw[zJ,I6];have:=CD.out;have:=Bz.out;omega) (by have:=BC.size;have:=AA.out;omega));have BD:=A0 BC;clear BC Ab ck BR;go_wp2_with fail
    refine AM.out.mono ?_;rintro e w5 ⟨rfl,Bh,AO,Bt⟩;have Am:w4.heap[g]?=some (.cells cur 9 (0,0)):=(BD.out.block g (A8 BY.out)).trans BY.out;have An:=Bt g _ Am (by intro e;injection e with e;exact BO e) (by intro c fz e;cases e)
    have Ah:Lib.IsBuilderF 203 5 w.heap.size w.heap.size (Lib.byteCells (D7 (A2T m (ks.take (i+1))))) w5:=by
     rw[CE.out,Lib.byteCells_append];exact .inr Bh
    have Ai:Below w.heap.size wA w5:=(Aa.out.trans (BD.out.mono (QA AA.out))).trans AO;have Bv:w.heap.size<w5.heap.size:=by have:=AO.size;have:=BD.out.size;have:=AA.out;omega
    have CB:Hid (B1n m ks w.heap.size g cur (i+1) wA w5):=A0 ⟨by omega,Ah,Ai,An,Bv⟩;clear Bh AO Bt Am An Ah Ai Bv AM;go_wp2_with fail
    go_roundw
    case rel=>exact⟨i+1,by go_num,CB⟩
    case measure=>simp[intOf];omega
   ·obtain rfl:i=ks.length:=by omega
    rw[List.take_length] at AS;have Al:=A8H m ks Ba.out AE.out Ad.out ks.length;rw[List.take_length] at Al;generalize AV:D7 (A2T m ks)=data at*;have AB:=A0 AV;cases gb with
    |true=>
     have ht:H.typ=103:=by have:=BH.out;simpa using this
     have Br:=(HG.out ht).1;have CG:=A0 ht;have AZ:=A0 AS;have Aa:=A0 AT;have AA:=A0 AL;have Ac:=A0 (B0T w.heap.size w.heap.size data wr AZ.out (QA AA.out));rw[Br];clear hrel AS AT AP AL AV hi Ap c1 c3 c0 ht Br;go_wp2_with fail
     refine Ac.out.mono ?_;rintro e w6 ⟨rfl,-,Aj,-⟩;have AC:Below w.heap.size w w6:=(BE.out.trans Aa.out).trans (Aj.mono (by have:=AA.out;omega));have AH:=HH.out.below AC;have AM:=A0 (A7L G0 E B tw b fw AJ H Az bs [71,108,111,98,97,108,72,101,97,100,46,48,46,48] data 103 w6 AH hp (by decide) Al (by omega) (by decide) (by omega));have AD:=A0 AC;clear Aj AC AH Ac;go_wp2_with fail
     refine AM.out.mono ?_;rintro e w7 ⟨rfl,Af,R,hR,AI,CK,Ag⟩;have AY:=A0 AI;have HR:=A0 hR;have Ax:=A0 Ag;clear AI hR Ag AM;go_wp2_with fail
     go_ret
     have Aq:=A8G m ks AE.out;have AQ:Fr B [b,tw] w w6:=(Fr.of_below AD.out w.heap.size [b,tw]).wide HH.out.Bw (λk hk _=>hk);have e1: ((E7 data.length).toNat:Int)=E7 data.length:=by unfold E7;omega
     refine .inr ⟨CG.out,rfl,Af,H.cells,R.bytes,R.bytes++data,(E7 data.length).toNat,⟨R,A2T m ks,?_,Aq.1,Aq.2,λe=>AW (by simpa[A2T] using congrArg List.length e),?_,?_,?_⟩,?_,AY.out.W,HR.out.ok.len,AY.out.F,?_,A8 AY.out.F,AQ.trans Ax.out⟩
     ·rw[AB.out];exact HR.out
     ·rw[AB.out];exact Al
     ·rw[AB.out]
     ·rw[AB.out]
     ·have:=AY.out.buf;simpa[List.append_assoc] using this
     ·have:=AD.out.size;omega
    |false=>
    have BI:Hid (H.typ≠103):=A0 (by have:=BH.out;simpa using this)
    have CV:Calls Tryz.prog 138 #[str H.name] wr λe w'=>e= .returned (.tuple #[str (Pa.split H.name).1,str (Pa.split H.name).2])/\∃n,w'=wr.drewN n:=by
     simpa using Tryz.path_Split ⟨H.name.toArray⟩ wr (by rw[I6];omega)
    have BX: (Pa.split H.name).1.length+(Pa.split H.name).2.length=H.name.length:=by
     rw[<-zH,Pa.split_append]
    generalize (Pa.split H.name).1=d1 at*;generalize (Pa.split H.name).2=d2 at*;have AZ:=A0 AS;have Aa:=A0 AT;have AA:=A0 AL;clear hrel AS AT AP AL AV hi Ap;go_wp2_with fail
    refine CV.mono ?_;rintro e w4 ⟨rfl,kn,rfl⟩;go_wp2_with fail
    have AG:∀ (j:Nat) (x:ByteArray),([⟨d1.toArray⟩,⟨#[80,97,120,72,101,97,100,101,114,115,46,48]⟩,⟨d2.toArray⟩]:List ByteArray)[j]?=some x->((wr.drewN kn).alloc (.cells #[str d1,.string ⟨#[80,97,120,72,101,97,100,101,114,115,46,48]⟩,str d2] 9)).cell? ⟨wr.heap.size,0+j,none⟩=some (.string x):=by
     intro j x hx;have hn:=zI (wr.drewN kn) (.cells #[str d1,.string ⟨#[80,97,120,72,101,97,100,101,114,115,46,48]⟩,str d2] 9);rw[Nat.zero_add];refine(zA hn j).trans ?_;match j,hx with
     |0,hx=>injection hx with hx;subst hx;rfl
     |1,hx=>injection hx with hx;subst hx;rfl
     |2,hx=>injection hx with hx;subst hx;rfl
    have Bo:=Tryz.path_Join wr.heap.size 0 3 [⟨d1.toArray⟩,⟨#[80,97,120,72,101,97,100,101,114,115,46,48]⟩,⟨d2.toArray⟩] _ AG (by show _< ((wr.drewN kn).heap.push _).size;rw[Array.size_push];exact Nat.lt_succ_self _) (by simp[Pa.lens];omega);have Bn:=Pa.joinL_length_le [d1,[80,97,120,72,101,97,100,101,114,115,46,48],d2]
    have CL: (Pa.joinL [d1,[80,97,120,72,101,97,100,101,114,115,46,48],d2]).length<=600020:=by
     have e:Pa.lens [d1,[80,97,120,72,101,97,100,101,114,115,46,48],d2]+[d1,[80,97,120,72,101,97,100,101,114,115,46,48],d2].length<=600020:=by simp[Pa.lens];omega
     exact zP Bn e
    have Ao:Calls Tryz.prog 139 #[.slice (some ⟨wr.heap.size,0,none⟩) 3 3] ((wr.drewN kn).alloc (.cells #[str d1,.string ⟨#[80,97,120,72,101,97,100,101,114,115,46,48]⟩,str d2] 9)) λe w'=>e= .returned (str (Pa.joinL [d1,[80,97,120,72,101,97,100,101,114,115,46,48],d2]))/\Below wr.heap.size wr w':=by
     refine Bo.mono ?_;rintro e w' ⟨rfl,hb⟩;have b1:Below wr.heap.size wr (wr.drewN kn):=⟨rfl,rfl,rfl,zB _,λ_ _=>rfl⟩;have b2:Below wr.heap.size (wr.drewN kn) _:=(zD wr.heap.size (wr.drewN kn)).alloc (zB _) (.cells #[str d1,.string ⟨#[80,97,120,72,101,97,100,101,114,115,46,48]⟩,str d2] 9)
     have b3:Below wr.heap.size _ w':=hb.mono (by
      show wr.heap.size<=((wr.drewN kn).heap.push _).size
      rw[Array.size_push];exact Nat.le_succ _)
     exact⟨rfl,(b1.trans b2).trans b3⟩
    clear Bo Bn AG;generalize Pa.joinL [d1,[80,97,120,72,101,97,100,101,114,115,46,48],d2]=nm at*;refine Ao.mono ?_;rintro e w5 ⟨rfl,AO⟩;have Ac:=A0 (B0T w.heap.size w.heap.size data w5 (A3X AZ.out AO) (by have:=AO.size;have:=AA.out;omega));have CA:=A0 AO;clear Ao BX AO;go_wp2_with fail
    refine Ac.out.mono ?_;rintro e w6 ⟨rfl,-,Aj,-⟩;have AC:Below w.heap.size w w6:=((BE.out.trans Aa.out).trans (CA.out.mono (QA AA.out))).trans Aj;have AH:=HH.out.below AC;have AM:=A0 (A7L G0 E B tw b fw AJ H Az bs nm data 120 w6 AH hp (by omega) Al (by omega) (by decide) (by omega));have AD:=A0 AC;clear Aj AC AH Ac;go_wp2_with fail
    refine AM.out.mono ?_;rintro e w7 ⟨rfl,Af,R,hR,AI,CK,Ag⟩;have AY:=A0 AI;have HR:=A0 hR;have Ax:=A0 Ag;clear AI hR Ag AM;go_wp2_with fail
    refine HK.out _ _ ?_;have CR: (E7 data.length).toNat<512:=by unfold E7;omega
    have CP: (bs++List.replicate AJ 0++R.bytes++data).length=bs.length+AJ+512+data.length:=by
     rw[zH,zH,zH,z7,HR.out.ok.len]
    refine A7z G0 E B tw b Af _ H R.bytes _ w7 AY.out CR BZ.out sz Bc.out Ae.out (by rw[CP];omega) _ (λw' hT=> ?_);obtain⟨CI,B3,t1,t2,t3,t4,t5,t6,t7⟩:=hT;have Aq:=A8G m ks AE.out;have AQ:Fr B [b,tw] w w6:=(Fr.of_below AD.out w.heap.size [b,tw]).wide HH.out.Bw (λk hk _=>hk);refine .inl ⟨BI.out,rfl,CI,B3,R.bytes++data++List.replicate (E7 data.length).toNat 0,t1,.inr ⟨R,A2T m ks,?_,Aq.1,Aq.2,λe=>AW (by simpa[A2T] using congrArg List.length e),?_,?_⟩,?_,t3,t4,?_,t6,(AQ.trans Ax.out).trans t7⟩
    ·rw[AB.out];exact HR.out
    ·rw[AB.out];exact Al
    ·rw[AB.out]
    ·simpa[List.append_assoc] using t2
    ·have:=AD.out.size;have:=Ax.out.size;omega
end Go.Proofs.YtkanmkcojlefbaaGreatDoor
