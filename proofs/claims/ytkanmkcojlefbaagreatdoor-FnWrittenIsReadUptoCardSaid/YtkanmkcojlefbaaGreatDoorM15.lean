/-
  Part of the proof; holds the texts WGnu, Shelf3, PlainOct, Par, Rfmt, Nm, RHs.
-/
import Derived.Test.YtkanmkcojlefbaaGreatDoorM14
import Derived.Shelf.Bytes.SlTrim
set_option maxHeartbeats 4000000
set_option maxRecDepth 100000
set_option linter.unusedSimpArgs false
set_option linter.unusedVariables false
namespace Go.Proofs.YtkanmkcojlefbaaGreatDoor
open Go.RowKit
def LX (AA:Int) (s X:List UInt8):Prop:=(s.length<=100/\X=[])\/(100<s.length/\∃R,A6A [117,115,116,97,114,32] [32,0] AA (s++[0]).length R/\X=R.bytes++(s++[0])++List.replicate (E7 (s++[0]).length).toNat 0)
theorem LX.len {AA:Int} {s X:List UInt8} (h:LX AA s X):X.length<=s.length+2048:=by
 rcases h with ⟨-,rfl⟩|⟨-,R,hR,rfl⟩
 ·simp
 ·have: (E7 (s++[0]).length).toNat<512:=by unfold E7;omega
  simp only[List.length_append,List.length_replicate,hR.ok.len,List.length_cons,List.length_nil] at*;omega
def GM (G0:Nat) (E:Nat->Addr) (B tw b:Nat) (H:Hd) (AC:List UInt8) (w wx:World):Prop:=∃fw AA AB bs,WS G0 E B tw b fw AA H AB bs .nilIface wx/\AA<512/\bs++List.replicate AA 0=AC/\Fr B [b,tw] w wx
theorem GM.hdr {G0:Nat} {E:Nat->Addr} {B tw b:Nat} {H:Hd} {AA:List UInt8} {w wx:World} (h:GM G0 E B tw b H AA w wx) (k:Nat) (v:Value) (hv:H.cells[k]?=some v):wx.cell? ⟨tw,3+k,none⟩=some v:=by
 obtain⟨fw,AC,AB,bs,h1,-⟩:=h;exact h1.hdr k v hv
theorem GM.step {G0:Nat} {E:Nat->Addr} {B tw b:Nat} {H:Hd} {AB:List UInt8} {w wx:World} (h:GM G0 E B tw b H AB w wx) (s:List UInt8) (AA:Int) (hs:100<s.length) (AJ:s.length<=600000) (AG:0<=AA/\AA<256) (AH:D1 AA=false) (AI:AB.length+1048576<=140737488355328):
  Calls Tryz.prog 141 #[.pointer (some ⟨tw,0,none⟩),str [46,47,46,47,64,76,111,110,103,76,105,110,107],str (s++[0]),.int .u8 AA,.int .i64 8] wx λe w'=>e= .returned .nilIface/\∃X,LX AA s X/\GM G0 E B tw b H (AB++X) w w':=by
 obtain⟨fw,AC,AD,bs,h1,h2,h3,h4⟩:=h;have hl:bs.length+AC=AB.length:=by rw[<-h3,zH,z7]
 have AL: (s++[0]).length=s.length+1:=by simp
 refine(A2Y 8 _ _ B6B G0 E B tw b fw AC H AD bs _ (s++[0]) AA wx h1 h2 (by decide) (by omega) AG AH (by omega)).mono ?_;rintro e w' ⟨rfl,AE,B2,r1,r2,r3,r4⟩;exact⟨rfl,_,.inr ⟨hs,B2,r1,rfl⟩,AE,_,B2.bytes,_,r2,by unfold E7;omega,by rw[<-h3];simp[List.append_assoc],h4.trans r4⟩
def B6m (B tw b AB:Nat) (H:Hd) (bs:List UInt8) (sz:Int) (w:World) (e:Ending) (w':World):Prop:=
 e= .returned .nilIface/\∃AA B2 X Y,A6f H B2/\LX 76 H.name X/\LX 75 H.link Y/\W3 B b (bs++List.replicate AB 0++X++Y++B2.bytes) w'/\TW tw b AA (E7 sz) H.cells (Lib.byteCells B2.bytes) .nilIface w'/\FW AA b sz w'/\w.heap.size<=AA/\AA<w'.heap.size/\Fr B [b,tw] w w'
theorem B3d (G0:Nat) (E:Nat->Addr) (B tw b fw AC:Nat) (H:Hd) (AQ bs:List UInt8) (w:World) (h:WS G0 E B tw b fw AC H AQ bs .nilIface w) (hp:AC<512) (AS:H.InT) (AU:A5z H) (Ah:H.name.length<=600000) (Ag:H.link.length<=600000) (sz:Int) (AV:sz=if D1 H.typ then 0 else H.size) (AG:0<=sz) (Ad:bs.length+AC+8388608<=140737488355328):
  Calls Tryz.prog 69 #[.pointer (some ⟨tw,0,none⟩),.pointer (some ⟨tw,3,none⟩)] w (B6m B tw b AC H bs sz w):=by
 have HG:Hid (GM G0 E B tw b H (bs++List.replicate AC 0) w w):=A0 ⟨fw,AC,AQ,bs,h,hp,rfl,Fr.refl _ _ w⟩;have AX:=A0 AS;have AY:=A0 AU;have AZ:=A0 AV;have AL:=A0 AG;have AT: (bs++List.replicate AC 0).length=bs.length+AC:=by rw[zH,z7]
 have AJ:=A0 AT;clear h AS AU AV AG AT;go_enter Tryz.func69,Tryz.ntmps69
 have c1:=HG.out.hdr 1 (str H.name) rfl;go_upto_if 21 with fail
 go_cut [5,6] (λ_ _ wx=>∃X,LX 76 H.name X/\GM G0 E B tw b H (bs++List.replicate AC 0++X) w wx)
 case first=>
  by_cases hl:H.name.length<=100
  ·go_wp2_with fail
   go_meet
   exact⟨[],.inl ⟨hl,rfl⟩,by rw[QH];exact HG.out⟩
  ·have HC:=A0 (HG.out.step H.name 76 (by omega) (by omega) (by decide) rfl (by have:=AJ.out;omega))
   have AB:Value.string ({data:=H.name.toArray}++ {data:=#[0]})=str (H.name++[0]):=congrArg Value.string (V5 H.name [0]);have AA:=A0 AB;clear AB;go_wp2_with fail
   rw[AA.out];refine HC.out.mono ?_;rintro e w1 ⟨rfl,X1,AE,AD⟩;have AM:=A0 AE;have AI:=A0 AD;clear AE AD HC AA;go_wp2_with fail
   go_meet
   exact⟨X1,AM.out,AI.out⟩
 case rest=>
 obtain⟨X,hX,hG⟩:=hcut;clear HG c1;obtain⟨w2,AW⟩:∃w2:World,w2=wc:=⟨_,rfl⟩;rw[<-AW] at hG⊢;clear AW wc;have HX:=A0 hX;have HG:=A0 hG;have AP:=A0 hX.len;clear hX hG;have c2:=HG.out.hdr 2 (str H.link) rfl;go_upto_if 38 with fail
 go_cut [7,8] (λ_ _ wx=>∃Y,LX 75 H.link Y/\GM G0 E B tw b H (bs++List.replicate AC 0++X++Y) w wx)
 case first=>
  by_cases hl:H.link.length<=100
  ·go_wp2_with fail
   go_meet
   exact⟨[],.inl ⟨hl,rfl⟩,by rw[QH];exact HG.out⟩
  ·have HC:=A0 (HG.out.step H.link 75 (by omega) (by omega) (by decide) rfl (by have:=AJ.out;have:=AP.out;rw[zH];omega))
   have AB:Value.string ({data:=H.link.toArray}++ {data:=#[0]})=str (H.link++[0]):=congrArg Value.string (V5 H.link [0]);have AA:=A0 AB;clear AB;go_wp2_with fail
   rw[AA.out];refine HC.out.mono ?_;rintro e w1 ⟨rfl,X1,AE,AD⟩;have AM:=A0 AE;have AI:=A0 AD;clear AE AD HC AA;go_wp2_with fail
   go_meet
   exact⟨X1,AM.out,AI.out⟩
 case rest=>
 obtain⟨Y,hY,Aa,AH,AO,AR,h1,h2,h3,h4⟩:=hcut;have Af:=hY.len
 have Ac:AR.length+AH+512<=140737488355328:=by
  have e:=congrArg List.length h3;have:=AJ.out;have:=AP.out;simp only[List.length_append,List.length_replicate] at e;omega
 have HY:=A0 hY;have H1:=A0 h1;have H3:=A0 h3;have H4:=A0 h4;clear HG c2 hY h1 h3 h4;refine‹∀ (a:Act) (Ae:World),Code.wp Tryz.prog _ (bodyPost Tryz.prog Tryz.f69 (B6m B tw b AC H bs sz w)) a Ae->_› _ _ ?_;refine B2P G0 E B tw b Aa AH H AO AR wc H1.out h2 AX.out AY.out sz AZ.out AL.out Ac _ (λw' hT=> ?_);obtain⟨Ab,B4,t1,t2,t3,t4,t5,t6,t7⟩:=hT;exact⟨rfl,Ab,B4,X,Y,t1,HX.out,HY.out,by rw[H3.out] at t2;exact t2,t3,t4,zP H4.out.size t5,t6,H4.out.trans t7⟩
end Go.Proofs.YtkanmkcojlefbaaGreatDoor
namespace Go.Proofs
open Go.Shelf
def Tryz.laysSlV6_ren:Go.Shelf.Ren:=⟨fun|6=>275|10=>298|9=>297|11=>299|13=>301|12=>300|15=>303|14=>302|16=>312|19=>314|18=>313|17=>277|21=>318|20=>304|n=>n,fun|22=>35|9=>9|3=>3|4=>4|5=>5|28=>372|27=>371|0=>0|31=>375|21=>21|33=>353|36=>387|37=>167|40=>390|39=>389|n=>n,fun|0=>16|1=>17|n=>n⟩
theorem Tryz.laysSlV6:Go.Proofs.SlLaysV.n6 Tryz.prog Tryz.laysSlV6_ren:= {
 mixed:=by kernel_rfl
 f6:=Tryz.func275.trans (congrArg some (by kernel_rfl))
 f9:=Tryz.func297.trans (congrArg some (by kernel_rfl))
 f10:=Tryz.func298.trans (congrArg some (by kernel_rfl))
 f11:=Tryz.func299.trans (congrArg some (by kernel_rfl))
 f12:=Tryz.func300.trans (congrArg some (by kernel_rfl))
 f13:=Tryz.func301.trans (congrArg some (by kernel_rfl))
 f14:=Tryz.func302.trans (congrArg some (by kernel_rfl))
 f15:=Tryz.func303.trans (congrArg some (by kernel_rfl))
 f16:=Tryz.func312.trans (congrArg some (by kernel_rfl))
 f17:=Tryz.func277.trans (congrArg some (by kernel_rfl))
 f18:=Tryz.func313.trans (congrArg some (by kernel_rfl))
 f19:=Tryz.func314.trans (congrArg some (by kernel_rfl))
 f20:=Tryz.func304.trans (congrArg some (by kernel_rfl))
 f21:=Tryz.func318.trans (congrArg some (by kernel_rfl))
 t0:=Tryz.underlying0
 a0:=Tryz.isAgg0
 z0:=Tryz.sizeOf0
 v0:=Tryz.zeroValue0
 t3:=Tryz.underlying3
 a3:=Tryz.isAgg3
 z3:=Tryz.sizeOf3
 v3:=Tryz.zeroValue3
 t4:=Tryz.underlying4
 a4:=Tryz.isAgg4
 z4:=Tryz.sizeOf4
 v4:=Tryz.zeroValue4
 t5:=Tryz.underlying5
 a5:=Tryz.isAgg5
 z5:=Tryz.sizeOf5
 v5:=Tryz.zeroValue5
 t9:=Tryz.underlying9
 a9:=Tryz.isAgg9
 z9:=Tryz.sizeOf9
 v9:=Tryz.zeroValue9
 t21:=Tryz.underlying21
 a21:=Tryz.isAgg21
 z21:=Tryz.sizeOf21
 v21:=Tryz.zeroValue21
 t22:=Tryz.underlying35
 a22:=Tryz.isAgg35
 z22:=Tryz.sizeOf35
 v22:=Tryz.zeroValue35
 t27:=Tryz.underlying371
 a27:=Tryz.isAgg371
 z27:=Tryz.sizeOf371
 t28:=Tryz.underlying372
 a28:=Tryz.isAgg372
 z28:=Tryz.sizeOf372
 v28:=Tryz.zeroValue372
 t31:=Tryz.underlying375
 a31:=Tryz.isAgg375
 z31:=Tryz.sizeOf375
 v31:=Tryz.zeroValue375
 t33:=Tryz.underlying353
 a33:=Tryz.isAgg353
 z33:=Tryz.sizeOf353
 v33:=Tryz.zeroValue353
 t36:=Tryz.underlying387
 a36:=Tryz.isAgg387
 z36:=Tryz.sizeOf387
 t37:=Tryz.underlying167
 a37:=Tryz.isAgg167
 z37:=Tryz.sizeOf167
 v37:=Tryz.zeroValue167
 t39:=Tryz.underlying389
 a39:=Tryz.isAgg389
 z39:=Tryz.sizeOf389
 v39:=Tryz.zeroValue389
 t40:=Tryz.underlying390
 a40:=Tryz.isAgg390
 z40:=Tryz.sizeOf390
 v40:=Tryz.zeroValue390}
open Go.RowKit Go.Lib in
theorem Tryz.bytes_Trim_laid (p:Option Addr) (n c:Nat) (xs:List Int) (AA:ByteArray) (w:World)
  (hx:xs.length=n) (AE:n<=c) (AC:c<=9223372036854775807) (h1:Lib.BytesIn w p n xs) (hr:∀x∈xs,0<=x/\x<256) (AD:AA.size<4294967281) (AB:∀ (j:Nat) b,AA.data.toList[j]?=some b->b.toNat<128):
  Calls Tryz.prog 275 #[.slice p n c,.string AA] w λe w'=>e= .returned (Lib.leftV p (Lib.trimRightS (Lib.bytesOf xs) AA.data.toList).length c ((Lib.trimRightS (Lib.bytesOf xs) AA.data.toList).length- (Lib.trimS (Lib.bytesOf xs) AA.data.toList).length))/\Below w.heap.size w w':=Any.bytes_Trim_laid Tryz.laysSlV6 (by kernel_rfl) p n c xs AA w hx AE AC h1 hr AD AB
end Go.Proofs
namespace Go.Proofs.YtkanmkcojlefbaaGreatDoor
open Go.Lib
def O6 (AA:Nat):List UInt8->Nat
 | []=>AA
 |c::r=>O6 (AA*8+(c.toNat-48)) r
theorem A5E (AA:Nat) (a b:List UInt8):O6 AA (a++b)=O6 (O6 AA a) b:=by
 induction a generalizing AA with
 |nil=>rfl
 |cons c r ih=>exact ih _
theorem A3H (k:Nat) (h:k<8): (od k).toNat=48+k:=by rw[od,UInt8.toNat_ofNat'];omega
theorem A5t (u:Nat):O6 0 (E3 u)=u:=by
 induction u using Nat.strongRecOn with
 |_ u ih=>
  by_cases h:u<8
  ·rw[U4 h];show 0*8+((od u).toNat-48)=u;rw[A3H u h];omega
  ·rw[A0L (by omega),A5E,ih (u/8) (by omega)]
   show u/8*8+((od (u% 8)).toNat-48)=u
   rw[A3H _ (Nat.mod_lt _ (by omega))];omega
theorem A6y (z:Nat) (r:List UInt8):O6 0 (List.replicate z 48++r)=O6 0 r:=by
 induction z with
 |zero=>rfl
 |succ z ih=>rw[List.replicate_succ,List.cons_append];exact ih
theorem B0y (u:Nat):∀c∈E3 u,48<=c.toNat/\c.toNat<=55:=by
 induction u using Nat.strongRecOn with
 |_ u ih=>
  intro c hc;by_cases h:u<8
  ·rw[U4 h] at hc;obtain rfl:=List.mem_singleton.1 hc;rw[A3H u h];omega
  ·rw[A0L (by omega)] at hc
   rcases List.mem_append.1 hc with hc|hc
   ·exact ih (u/8) (by omega) c hc
   ·obtain rfl:=List.mem_singleton.1 hc;rw[A3H _ (Nat.mod_lt _ (by omega))];omega
def Y9 (n u:Nat):List UInt8:=List.replicate (n-1- (E3 u).length) 48++E3 u
theorem V3 (n u:Nat):C2 n u=Y9 n u++[0]:=rfl
theorem A4C (n u:Nat):O6 0 (Y9 n u)=u:=by rw[Y9,A6y,A5t]
theorem A0m (n u:Nat):∀c∈Y9 n u,48<=c.toNat/\c.toNat<=55:=by
 intro c hc;rcases List.mem_append.1 hc with hc|hc
 ·rw[List.eq_of_mem_replicate hc];decide
 ·exact B0y u c hc
end Go.Proofs.YtkanmkcojlefbaaGreatDoor
namespace Go.Proofs.YtkanmkcojlefbaaGreatDoor
open Go.RowKit
theorem bdn {B:Nat} {a w:World} (h:Below B a w) (n:Nat):Below B a (w.drewN n):=⟨h.os,h.tape,h.output,h.size,h.block⟩
def D4 (l:List UInt8):List UInt8:=l.take (l.idxOf 0)
theorem A5q (l:List UInt8) (c:UInt8):Lib.indexByte l c=A1q l c:=by
 have AA:=Lib.indexByte_ge l c;by_cases h:Lib.indexByte l c= -1
 ·rw[h,A6D (zB _) (λj _=>Lib.indexByte_none h j)]
 ·obtain⟨o,ho⟩:∃o:Nat,Lib.indexByte l c=o:=⟨(Lib.indexByte l c).toNat,by omega⟩
  obtain⟨h1,h2⟩:=Lib.indexByte_some ho;rw[ho,A7l h1 h2]
theorem A2v (l:List UInt8):Lib.bytesOf (l.map λb=>(b.toNat:Int))=l:=by
 simp[Lib.bytesOf,Function.comp_def]
theorem W7 {w:World} {g o:Nat} {l:List UInt8} (AA:At w g o (Lib.byteCells l)) (i:Nat) (hi:i<l.length):w.cell? ⟨g,o+i,none⟩=some (.int .u8 (l.getD i 0).toNat):=by
 refine AA i _ ?_;simp[Lib.byteCells,hi]
theorem A9C (w:World) (g o n c:Nat) (l:List UInt8) (AA:At w g o (Lib.byteCells l)) (hn:l.length=n):
  Calls Tryz.prog 212 #[.slice (some ⟨g,o,none⟩) n c,.int .u8 0] w (C4 w (.int .i64 (A1q l 0))):=by
 refine(Tryz.bytes_IndexByte g o n c (l.map λb=>(b.toNat:Int)) 0 w (by simpa using hn) ?_).mono ?_
 ·intro i hi
  refine AA i _ ?_;simp[Lib.byteCells,hn,hi]
 ·rintro e w' ⟨rfl,rfl⟩
  refine⟨?_,rfl⟩;rw[A2v,A5q];rfl
theorem L4 (w:World) (p:Value) (g o n c:Nat) (l:List UInt8) (AA:At w g o (Lib.byteCells l)) (hn:l.length=n) (AG:n<=c):
  Calls Tryz.prog 153 #[p,.slice (some ⟨g,o,none⟩) n c] w (C4 w (str (D4 l))):=by
 have h:=A9C w g o n c l AA hn;by_cases h0: (0:UInt8)∈l
 ·have e:A1q l 0=(l.idxOf 0:Nat):=by rw[A1q,if_pos h0]
  rw[e] at h;have AE:=List.idxOf_lt_length_iff.2 h0
  have AB:=O1 w g o c (l.take (l.idxOf 0)) (by
   have:=AA.take (l.idxOf 0);simpa[Lib.byteCells] using this)
  rw[zR,Nat.min_eq_left (by omega)] at AB;unfold D4;generalize l.idxOf 0=k at*;have AD: (0:Int)<=k:=by omega
  have hkc: (k:Int)<=c:=by omega
  clear AA h0 e;go_enter Tryz.func153,Tryz.ntmps153
  go_wp2_with fail
  refine h.mono ?_;rintro e w1 ⟨rfl,rfl⟩;go_wp2_with fail
  go_ret
  exact⟨rfl,rfl⟩
 ·have e:A1q l 0= -1:=by rw[A1q,if_neg h0]
  rw[e] at h;have AB:=O1 w g o c l AA;rw[hn] at AB;have AC:D4 l=l:=by unfold D4;rw[List.idxOf_eq_length h0];exact List.take_length
  rw[AC];clear AA h0 e;go_enter Tryz.func153,Tryz.ntmps153
  go_wp2_with fail
  refine h.mono ?_;rintro e w1 ⟨rfl,rfl⟩;go_wp2_with fail
  go_ret
  exact⟨rfl,rfl⟩
theorem A3q (AA AB:List UInt8) (ht:∀b∈AB,b=0\/b=32) (hb:∀b∈AA,b≠0/\b≠32):Lib.trimRightS (AA++AB) [32,0]=AA:=by
 unfold Lib.trimRightS;rw[List.reverse_append,List.dropWhile_append_of_pos]
 ·cases hr:AA.reverse with
  |nil=>have:=List.reverse_eq_nil_iff.1 hr;rw[this];rfl
  |cons x r=>
   have hx:=hb x (by rw[<-List.mem_reverse,hr];simp);rw[List.dropWhile_cons_of_neg (by simp[hx.1,hx.2]),<-hr,List.reverse_reverse]
 ·intro b hm
  rcases ht b (List.mem_reverse.1 hm) with rfl|rfl<;>rfl
theorem A4S (AA:List UInt8) (hb:∀b∈AA,b≠0/\b≠32):Lib.trimLeftS AA [32,0]=AA:=by
 cases AA with
 |nil=>rfl
 |cons x r=>
  have hx:=hb x (by simp);exact List.dropWhile_cons_of_neg (by simp[hx.1,hx.2])
theorem A9k (w:World) (g o n c:Nat) (AA AB:List UInt8) (AD:At w g o (Lib.byteCells (AA++AB))) (hn: (AA++AB).length=n) (AG:n<=c) (AC:c<=9223372036854775807) (ht:∀b∈AB,b=0\/b=32) (hb:∀b∈AA,b≠0/\b≠32):
  Calls Tryz.prog 275 #[.slice (some ⟨g,o,none⟩) n c,.string ⟨#[32,0]⟩] w λe w'=>e= .returned (if AA=[] then .slice none 0 0 else .slice (some ⟨g,o,none⟩) AA.length c)/\Below w.heap.size w w':=by
 refine(Tryz.bytes_Trim_laid (some ⟨g,o,none⟩) n c ((AA++AB).map λb=>(b.toNat:Int)) ⟨#[32,0]⟩ w (by simpa using hn) AG AC ?_ ?_ (by decide) ?_).mono ?_
 ·intro AH
  refine⟨g,o,rfl,λi hi=> ?_⟩;have:=W7 AD i (by omega);rw[this,List.getD_eq_getElem?_getD,List.getD_eq_getElem?_getD,List.getElem?_map,zF (show i< (AA++AB).length by omega)];rfl
 ·intro x hx
  obtain⟨b,-,rfl⟩:=List.mem_map.1 hx;have:=b.toNat_lt;omega
 ·intro j b hj
  have:b∈[(32:UInt8),0]:=List.mem_of_getElem? hj;simp at this;rcases this with rfl|rfl<;>decide
 ·rintro e w' ⟨rfl,AE⟩
  refine⟨?_,AE⟩;rw[A2v];have e1:=A3q AA AB ht hb;have e2:Lib.trimS (AA++AB) [32,0]=AA:=by unfold Lib.trimS;rw[e1,A4S AA hb]
  show Ending.returned (Lib.leftV _ (Lib.trimRightS (AA++AB) [32,0]).length c ((Lib.trimRightS (AA++AB) [32,0]).length- (Lib.trimS (AA++AB) [32,0]).length))=_
  rw[e1,e2,Nat.sub_self];unfold Lib.leftV Lib.fromV;by_cases h0:AA=[]
  ·subst h0;rfl
  ·have:AA.length≠0:=λe=>h0 (List.eq_nil_of_length_eq_zero e)
   rw[if_neg (by omega),if_neg h0];congr 1
   split
   ·rfl
   ·rfl
theorem B0x (l:List UInt8):∀ (AA:Nat),(∀c∈l,48<=c.toNat/\c.toNat<=55)->O6 AA l< (AA+1)*8^l.length:=by
 induction l with
 |nil=>intro AA _;show AA< (AA+1)*1;omega
 |cons c r ih=>
  intro AA hd;have h1:=ih (AA*8+(c.toNat-48)) (λx hx=>hd x (List.mem_cons_of_mem _ hx));have h2:=hd c List.mem_cons_self;have e:O6 AA (c::r)=O6 (AA*8+(c.toNat-48)) r:=rfl;rw[e,List.length_cons,Nat.pow_succ];refine zL h1 ?_;rw[Nat.mul_comm (8^r.length) 8,<-Nat.mul_assoc];exact Nat.mul_le_mul_right _ (by omega)
theorem A7t (a:List UInt8) (x:UInt8):O6 0 (a++[x])=O6 0 a*8+(x.toNat-48):=by
 rw[A5E];rfl
theorem A7u (l:List UInt8) (k:Nat) (hk:k<l.length):O6 0 (l.take (k+1))=O6 0 (l.take k)*8+((l.getD k 0).toNat-48):=by
 have e:l.getD k 0=l[k]:=by rw[List.getD_eq_getElem?_getD,zF hk];rfl
 rw[zU hk,A7t,e]
theorem A1u (l:List UInt8) (hl:l.length<=12) (hd:∀c∈l,48<=c.toNat/\c.toNat<=55) (k:Nat):O6 0 (l.take k)<68719476736:=by
 have h:=B0x (l.take k) 0 (λc hc=>hd c (List.mem_of_mem_take hc));have h2: (l.take k).length<=12:=by rw[zR];omega
 have h3:8^ (l.take k).length<=8^12:=Nat.pow_le_pow_right (by omega) h2;omega
theorem B5q (l:List UInt8) (AH:l≠ []) (hl:l.length<=12) (hd:∀c∈l,48<=c.toNat/\c.toNat<=55) (w:World):
  Calls Tryz.prog 278 #[str l,.int .i64 8,.int .i64 64] w λe w'=>e= .returned (.tuple #[.int .u64 (O6 0 l),.nilIface])/\w'=Lib.bytesWorld w 5 ⟨l.toArray⟩:=by
 have AI:l.isEmpty=false:=by cases l with
  |nil=>exact absurd rfl AH
  |cons x r=>rfl
 have AG:=Lib.run_convert_string_bytes (P:=Tryz.prog) w 9 35 5 ⟨l.toArray⟩ (u:= .string) Tryz.underlying9 Tryz.underlying35 Tryz.underlying5;have hB:∀j,j<l.length->(Lib.bytesWorld w 5 ⟨l.toArray⟩).cell? ⟨w.heap.size,j,none⟩=some (.int .u8 (l.getD j 0).toNat):=λj hj=>Lib.bytesWorld_cell w 5 ⟨l.toArray⟩ j (by rw[I6];exact hj);obtain⟨W1,AD⟩:∃W1,W1=Lib.bytesWorld w 5 ⟨l.toArray⟩:=⟨_,rfl⟩;rw[<-AD] at AG hB⊢;clear AD;have AL: (⟨l.toArray⟩:ByteArray).size=l.length:=I6 l;rw[AL] at AG
 have AS:IntKind.u64.wrap (IntKind.u64.wrap 18446744073709551616-1)=18446744073709551615:=by
  rw[IntKind.wrap_u64,IntKind.wrap_u64];decide
 have HD:=A0 hd;have HL:=A0 hl;clear hd AH;go_enter Tryz.func278,Tryz.ntmps278
 go_wp2_with fail
 go_loop [12,13,101] (λvu vn vi=>∃ (k:Nat) (a:Int),vu= .bool false/\vn= .int .u64 a/\vi= .int .i64 k/\k<=l.length/\Hid (a=(O6 0 (l.take k):Int)))
  (λ_ _ vi=>l.length- (intOf vi).toNat)
 case atStart=>exact⟨0,0,rfl,rfl,rfl,by omega,rfl⟩
 case round=>
  obtain⟨k,a,rfl,rfl,rfl,hk,hh⟩:=hrel;have ha:=hh.out;have AC:=A1u l HL.out HD.out k;have a0:0<=a:=by omega
  have a1:a<68719476736:=by omega
  by_cases AA:k<l.length
  ·have AB: (k:Int)<l.length:=by omega
   have hc:=hB k AA;have AE:=HD.out (l.getD k 0) (by rw[List.getD_eq_getElem?_getD,zF AA];exact List.getElem_mem AA);have HN:=A0 (A7u l k AA);generalize (l.getD k 0)=c at hc AE HN;obtain⟨AO,AP⟩:=AE;have hE:Hid (a*8+((c.toNat:Int)-48)=((O6 0 (l.take (k+1)):Nat):Int)):=A0 (by have:=HN.out;omega);have AM:a<2305843009213693952:=by omega
   have AQ: (c.toNat:Int)-48<8:=by omega
   have AR:0<=(c.toNat:Int)-48:=by omega
   clear hh ha hB AC;go_wp2_with fail
   go_round
   case rel=>exact⟨k+1,a*8+((c.toNat:Int)-48),rfl,by go_num,by go_num,by omega,hE⟩
   case measure=>simp[intOf];omega
  ·have AJ:k=l.length:=by omega
   subst AJ;have AB:¬((l.length:Int)<l.length):=by omega
   clear hB;go_wp2_with fail
   go_ret2
   exact⟨rfl,rfl⟩
theorem pu8 (l:List UInt8) (AA:l≠ []) (hl:l.length<=12) (hd:∀c∈l,48<=c.toNat/\c.toNat<=55) (w:World):
  Calls Tryz.prog 276 #[str l,.int .i64 8,.int .i64 64] w λe w'=>e= .returned (.tuple #[.int .u64 (O6 0 l),.nilIface])/\Below w.heap.size w w':=by
 have h:=B5q l AA hl hd w;go_enter Tryz.func276,Tryz.ntmps276
 go_wp2_with fail
 refine h.mono ?_;rintro e w1 ⟨rfl,rfl⟩;have hb:=Lib.bytesWorld_below w 5 ⟨l.toArray⟩;go_wp2_with fail
 go_ret2
 exact⟨rfl,hb⟩
def P8 (f:List UInt8) (u:Nat):Prop:=∃AA AB,f=AA++AB/\(∀b∈AB,b=0\/b=32)/\(∀c∈AA,48<=c.toNat/\c.toNat<=55)/\AA.length<=12/\O6 0 AA=u
theorem P8.field (n u:Nat) (hn:2<=n) (AA:n<=12) (h:u<8^ (n-1)):P8 (C2 n u) u:=by
 refine⟨Y9 n u,[0],V3 n u,by simp,A0m n u,?_,A4C n u⟩;have:=D2 n u hn h;rw[V3,zH] at this;simp at this;omega
theorem P8.chk (u:Nat) (h:u<8^6):P8 (C2 7 u++[32]) u:=by
 refine⟨Y9 7 u,[0,32],by rw[V3];simp,by simp,A0m 7 u,?_,A4C 7 u⟩;have:=D2 7 u (by omega) h;rw[V3,zH] at this;simp at this;omega
theorem P8.zero (n:Nat):P8 (List.replicate n 0) 0:=⟨[],List.replicate n 0,rfl,λb hb=> .inl (List.eq_of_mem_replicate hb),by simp,by simp,rfl⟩
theorem P8.lt {f:List UInt8} {u:Nat} (h:P8 f u):u<68719476736:=by
 obtain⟨AA,AB,rfl,ht,hb,hl,rfl⟩:=h;have:=A1u AA hl hb AA.length;rwa [List.take_length] at this
theorem P8.low {f:List UInt8} {u:Nat} (h:P8 f u):∀b∈f,b.toNat<128:=by
 obtain⟨AA,AB,rfl,ht,hb,hl,rfl⟩:=h;intro b hm;rcases List.mem_append.1 hm with hm|hm
 ·have:=hb b hm;omega
 ·rcases ht b hm with rfl|rfl<;>decide
theorem A2i (w:World) (p:Value) (g o n c u:Nat) (f:List UInt8) (hf:P8 f u) (AB:At w g o (Lib.byteCells f)) (hn:f.length=n) (AR:n<=c) (AG:c<=9223372036854775807):
  Calls Tryz.prog 237 #[p,.slice (some ⟨g,o,none⟩) n c] w λe w'=>e= .returned (.int .i64 u)/\Below w.heap.size w w':=by
 have hu:=hf.lt;obtain⟨AA,AH,rfl,ht,hb,hl,rfl⟩:=hf;have AE:=A9k w g o n c AA AH AB hn AR AG ht (λb hm=>by have:=hb b hm;constructor<;>rintro rfl<;>revert this<;>decide);by_cases h0:AA=[]
 ·subst h0
  rw[if_pos rfl] at AE;clear AB;go_enter Tryz.func237,Tryz.ntmps237
  go_wp2_with fail
  refine AE.mono ?_;rintro e w1 ⟨rfl,AD⟩;go_wp2_with fail
  go_ret
  exact⟨rfl,AD⟩
 ·rw[if_neg h0] at AE
  have AP:¬((AA.length:Int)=0):=by have:=List.length_pos_iff.2 h0;omega
  have AQ:g<w.heap.size:=zC (W7 AB 0 (by have:=List.length_pos_iff.2 h0;simp;omega));have AI:=A0 AB;have AL:=A0 (pu8 AA h0 hl hb)
  have AO:D4 AA=AA:=by
   unfold D4;rw[List.idxOf_eq_length (λhm=>by have:=hb 0 hm;revert this;decide),List.take_length]
  generalize O6 0 AA=u at*;clear AB ht hb hl h0;go_enter Tryz.func237,Tryz.ntmps237
  go_wp2_with fail
  refine AE.mono ?_;rintro e w1 ⟨rfl,AD⟩
  have AC:At w1 g o (Lib.byteCells AA):=by
   have:=(AI.out.carry (AD.block g AQ)).take AA.length;simpa[Lib.byteCells] using this
  have AJ:=A0 (L4 w1 p g o AA.length c AA AC rfl (by simp at hn;omega));clear AC;go_wp2_with fail
  refine AJ.out.mono ?_;rintro e w2 ⟨rfl,rfl⟩;rw[AO];go_wp2_with fail
  refine(AL.out _).mono ?_;rintro e w3 ⟨rfl,AM⟩;go_wp2_with fail
  go_ret
  exact⟨rfl,AD.trans (AM.mono AD.size)⟩
theorem At.mid {w:World} {g o:Nat} {a f c:List UInt8} (h:At w g o (Lib.byteCells (a++(f++c)))):At w g (o+a.length) (Lib.byteCells f):=by
 have h1:=(h.drop a.length).take f.length
 have e: ((Lib.byteCells (a++(f++c))).drop a.length).take f.length=Lib.byteCells f:=by
  rw[Lib.byteCells_append,Lib.byteCells_append];rw[show a.length=(Lib.byteCells a).length by rw[zJ],List.drop_left];rw[show f.length=(Lib.byteCells f).length by rw[zJ],List.take_left]
 rwa [e] at h1
theorem At.get_name {w:World} {g o:Nat} {B:C1} (AA:B.Ok) (h:At w g o (Lib.byteCells B.bytes)):At w g (o+0) (Lib.byteCells B.name):=by
 have:=At.mid (a:=B.bef_name) (f:=B.name) (c:=B.aft_name) (by rw[<-C1.at_name];exact h);rwa [AA.bef_name] at this
theorem At.get_mode {w:World} {g o:Nat} {B:C1} (AA:B.Ok) (h:At w g o (Lib.byteCells B.bytes)):At w g (o+100) (Lib.byteCells B.mode):=by
 have:=At.mid (a:=B.bef_mode) (f:=B.mode) (c:=B.aft_mode) (by rw[<-C1.at_mode];exact h);rwa [AA.bef_mode] at this
theorem At.get_uid {w:World} {g o:Nat} {B:C1} (AA:B.Ok) (h:At w g o (Lib.byteCells B.bytes)):At w g (o+108) (Lib.byteCells B.uid):=by
 have:=At.mid (a:=B.bef_uid) (f:=B.uid) (c:=B.aft_uid) (by rw[<-C1.at_uid];exact h);rwa [AA.bef_uid] at this
theorem At.get_gid {w:World} {g o:Nat} {B:C1} (AA:B.Ok) (h:At w g o (Lib.byteCells B.bytes)):At w g (o+116) (Lib.byteCells B.gid):=by
 have:=At.mid (a:=B.bef_gid) (f:=B.gid) (c:=B.aft_gid) (by rw[<-C1.at_gid];exact h);rwa [AA.bef_gid] at this
theorem At.get_size {w:World} {g o:Nat} {B:C1} (AA:B.Ok) (h:At w g o (Lib.byteCells B.bytes)):At w g (o+124) (Lib.byteCells B.size):=by
 have:=At.mid (a:=B.bef_size) (f:=B.size) (c:=B.aft_size) (by rw[<-C1.at_size];exact h);rwa [AA.bef_size] at this
theorem At.get_mtime {w:World} {g o:Nat} {B:C1} (AA:B.Ok) (h:At w g o (Lib.byteCells B.bytes)):At w g (o+136) (Lib.byteCells B.mtime):=by
 have:=At.mid (a:=B.bef_mtime) (f:=B.mtime) (c:=B.aft_mtime) (by rw[<-C1.at_mtime];exact h);rwa [AA.bef_mtime] at this
theorem At.get_chk {w:World} {g o:Nat} {B:C1} (AA:B.Ok) (h:At w g o (Lib.byteCells B.bytes)):At w g (o+148) (Lib.byteCells B.chk):=by
 have:=At.mid (a:=B.bef_chk) (f:=B.chk) (c:=B.aft_chk) (by rw[<-C1.at_chk];exact h);rwa [AA.bef_chk] at this
theorem At.get_typ {w:World} {g o:Nat} {B:C1} (AA:B.Ok) (h:At w g o (Lib.byteCells B.bytes)):At w g (o+156) (Lib.byteCells B.typ):=by
 have:=At.mid (a:=B.bef_typ) (f:=B.typ) (c:=B.aft_typ) (by rw[<-C1.at_typ];exact h);rwa [AA.bef_typ] at this
theorem At.get_link {w:World} {g o:Nat} {B:C1} (AA:B.Ok) (h:At w g o (Lib.byteCells B.bytes)):At w g (o+157) (Lib.byteCells B.link):=by
 have:=At.mid (a:=B.bef_link) (f:=B.link) (c:=B.aft_link) (by rw[<-C1.at_link];exact h);rwa [AA.bef_link] at this
theorem At.get_magic {w:World} {g o:Nat} {B:C1} (AA:B.Ok) (h:At w g o (Lib.byteCells B.bytes)):At w g (o+257) (Lib.byteCells B.magic):=by
 have:=At.mid (a:=B.bef_magic) (f:=B.magic) (c:=B.aft_magic) (by rw[<-C1.at_magic];exact h);rwa [AA.bef_magic] at this
theorem At.get_ver {w:World} {g o:Nat} {B:C1} (AA:B.Ok) (h:At w g o (Lib.byteCells B.bytes)):At w g (o+263) (Lib.byteCells B.ver):=by
 have:=At.mid (a:=B.bef_ver) (f:=B.ver) (c:=B.aft_ver) (by rw[<-C1.at_ver];exact h);rwa [AA.bef_ver] at this
theorem At.get_user {w:World} {g o:Nat} {B:C1} (AA:B.Ok) (h:At w g o (Lib.byteCells B.bytes)):At w g (o+265) (Lib.byteCells B.user):=by
 have:=At.mid (a:=B.bef_user) (f:=B.user) (c:=B.aft_user) (by rw[<-C1.at_user];exact h);rwa [AA.bef_user] at this
theorem At.get_group {w:World} {g o:Nat} {B:C1} (AA:B.Ok) (h:At w g o (Lib.byteCells B.bytes)):At w g (o+297) (Lib.byteCells B.group):=by
 have:=At.mid (a:=B.bef_group) (f:=B.group) (c:=B.aft_group) (by rw[<-C1.at_group];exact h);rwa [AA.bef_group] at this
theorem At.get_maj {w:World} {g o:Nat} {B:C1} (AA:B.Ok) (h:At w g o (Lib.byteCells B.bytes)):At w g (o+329) (Lib.byteCells B.maj):=by
 have:=At.mid (a:=B.bef_maj) (f:=B.maj) (c:=B.aft_maj) (by rw[<-C1.at_maj];exact h);rwa [AA.bef_maj] at this
theorem At.get_mnr {w:World} {g o:Nat} {B:C1} (AA:B.Ok) (h:At w g o (Lib.byteCells B.bytes)):At w g (o+337) (Lib.byteCells B.mnr):=by
 have:=At.mid (a:=B.bef_mnr) (f:=B.mnr) (c:=B.aft_mnr) (by rw[<-C1.at_mnr];exact h);rwa [AA.bef_mnr] at this
theorem At.get_rest {w:World} {g o:Nat} {B:C1} (AA:B.Ok) (h:At w g o (Lib.byteCells B.bytes)):At w g (o+345) (Lib.byteCells B.rest):=by
 have:=At.mid (a:=B.bef_rest) (f:=B.rest) (c:=B.aft_rest) (by rw[<-C1.at_rest];exact h);rwa [AA.bef_rest] at this
theorem At.get_pre {w:World} {g o:Nat} {B:C1} (AA:B.Ok) (h:At w g o (Lib.byteCells B.bytes)):At w g (o+345) (Lib.byteCells (B.rest.take 155)):=by
 have:=(At.get_rest AA h).take 155;simpa[Lib.byteCells] using this
theorem At.get_trailer {w:World} {g o:Nat} {B:C1} (AA:B.Ok) (h:At w g o (Lib.byteCells B.bytes)):At w g (o+508) (Lib.byteCells (B.rest.drop 163)):=by
 have:=(At.get_rest AA h).drop 163;simpa[Lib.byteCells,Nat.add_assoc] using this
structure RdB (B:C1):Prop where
 ok:B.Ok
 magic:B.magic=[117,115,116,97,114,0]
 chk:B.chk=C2 7 (X8 B.bytes 512)++[32]
 end4:B.rest.drop 163=[0,0,0,0]
theorem A3Z (bs:List UInt8):X8 bs 512<8^6:=by have:=A0l bs 512;omega
theorem B0i (w:World) (g o:Nat) (T:TypeId) (AB post:List Value) (B:C1) (hR:RdB B) (hs:E4 w g T AB B.bytes post) (ho:AB.length=o):
  Calls Tryz.prog 198 #[.pointer (some ⟨g,o,none⟩)] w λe w'=>e= .returned (.int .i64 6)/\Below w.heap.size w w':=by
 have AC:At w g o (Lib.byteCells B.bytes):=At.of_heap hs (λj v hj=>by
  rw[List.getElem?_toArray,<-ho,QG,zT (Nat.le_add_right _ _),Nat.add_sub_cancel_left,zX (zM.1 hj).1];exact hj)
 have hg:g<w.heap.size:=A8 hs;have v7:=A0 A5Z;have vu:=A0 Z0;have vs:=A0 B3W;have vc:=A0 B0M;have vm:=A0 A9l;have vv:=A0 A5a;have vt:=A0 A8P;have HO:=A0 (A2i (w.alloc (.cells #[.nilIface] 231)) (.pointer (some ⟨w.heap.size,0,none⟩)) g (o+148) 8 364 (X8 B.bytes 512) B.chk (by rw[hR.chk];exact P8.chk _ (A3Z _)) ((At.get_chk hR.ok AC).carry (zO w _ g hg)) hR.ok.chk (by omega) (by omega));have AI:=A0 AC;have HR:=A0 hR;have HS:=A0 hs;have AL:=A0 ho;clear AC hR hs ho;go_enter Tryz.func198,Tryz.ntmps198
 go_wp2_with fail
 refine(v7.out _ _).mono ?_;rintro e w1 ⟨rfl,rfl⟩;go_wp2_with fail
 refine(vc.out _ _ _).mono ?_;rintro e w1 ⟨rfl,rfl⟩;go_wp2_with fail
 refine HO.out.mono ?_;rintro e w1 ⟨rfl,AD⟩;have hb:Below w.heap.size w w1:=((zD _ w).alloc (zB _) _).trans (AD.mono (by simp))
 have AH:w1.cell? ⟨w.heap.size,0,none⟩=some .nilIface:=by
  rw[zA ((AD.block w.heap.size (by simp)).trans (zI w (.cells #[.nilIface] 231)))];rfl
 have AJ:=A0 hb;have AM:Hid (E4 w1 g T AB B.bytes post):=A0 ((hb.block g hg).trans HS.out);have HC:=A0 (A2w w1 g T AB B.bytes post AM.out HR.out.ok.len);rw[AL.out] at HC;clear hb AD HO;go_wp2_with fail
 refine HC.out.mono ?_;rintro e w2 ⟨⟨z,rfl⟩,AE⟩;have AO:w2.cell? ⟨w.heap.size,0,none⟩=some .nilIface:=by obtain⟨nd,rfl⟩:=AE;exact AH
 have AG:Hid (Below w.heap.size w w2):=by obtain⟨nd,rfl⟩:=AE;exact bdn AJ.out nd
 have AA:=(AI.out.carry (AG.out.block g hg));have cm:=O1 w2 g (o+257) 255 B.magic (At.get_magic HR.out.ok AA);have cv:=O1 w2 g (o+263) 249 B.ver (At.get_ver HR.out.ok AA);have ct:=O1 w2 g (o+508) 4 (B.rest.drop 163) (At.get_trailer HR.out.ok AA);rw[HR.out.magic] at cm;rw[HR.out.ok.ver] at cv;rw[HR.out.end4] at ct;simp only[List.length_cons,List.length_nil] at cm ct;clear AA AE AH HC;go_wp2_with (first|(go_at_call 107;refine(vu.out _ _).mono ?_;rintro e wx ⟨rfl,rfl⟩)|(go_at_call 178;refine(vs.out _ _).mono ?_;rintro e wx ⟨rfl,rfl⟩)|(go_at_call 182;refine(vm.out _ _ _).mono ?_;rintro e wx ⟨rfl,rfl⟩)|(go_at_call 183;refine(vv.out _ _ _).mono ?_;rintro e wx ⟨rfl,rfl⟩)|(go_at_call 181;refine(vt.out _ _ _).mono ?_;rintro e wx ⟨rfl,rfl⟩))
 go_ret
 exact⟨rfl,AG.out⟩
theorem B5J (x:Nat) (h:x<128):bits .and .u8 (x:Int) 128=0:=by
 have:∀k:Fin 128,bits .and .u8 ((k.val:Nat):Int) 128=0:=by decide
 exact this ⟨x,h⟩
theorem N7 (w:World) (p:Value) (g o n c u:Nat) (f:List UInt8) (hf:P8 f u) (AB:At w g o (Lib.byteCells f)) (hn:f.length=n) (AE:0<n) (AD:n<=c) (AC:c<=9223372036854775807):
  Calls Tryz.prog 199 #[p,.slice (some ⟨g,o,none⟩) n c] w λe w'=>e= .returned (.int .i64 u)/\Below w.heap.size w w':=by
 have h:=A2i w p g o n c u f hf AB hn AD AC;have hc:=W7 AB 0 (by omega);have AA:=hf.low (f.getD 0 0) (by rw[List.getD_eq_getElem?_getD,zF (by omega)];exact List.getElem_mem (by omega));have ha:=B5J _ AA;generalize (f.getD 0 0).toNat=x at*;have AG: (0:Int)<n:=by omega
 rw[Nat.add_zero] at hc;clear AB hf AA;go_enter Tryz.func199,Tryz.ntmps199
 go_wp2_with fail
 refine h.mono ?_;rintro e w1 ⟨rfl,hb⟩;go_wp2_with fail
 go_ret
 exact⟨rfl,hb⟩
theorem B2t (w:World) (x:Int) (h:x<128):Calls Tryz.prog 200 #[.int .i32 x] w (C4 w (.bool false)):=by
 have h2:¬(128:Int)<=x:=by omega
 go_enter Tryz.func200,Tryz.ntmps200
 go_wp2_with fail
 go_ret
 exact⟨rfl,rfl⟩
theorem B0b (w:World) (g o n c:Nat) (x:Nat) (hn:0<n) (hx:x<128) (hc:w.cell? ⟨g,o,none⟩=some (.int .u8 x)):
  Calls Tryz.prog 277 #[.slice (some ⟨g,o,none⟩) n c] w (C4 w (.tuple #[.int .i32 x,.int .i64 1])):=by
 have AA: (0:Int)<n:=by omega
 have AC: (x:Int)<128:=by omega
 have AB:IntKind.i32.wrap (x:Int)=x:=by rw[IntKind.wrap_i32];omega
 go_enter Tryz.func277,Tryz.ntmps277
 go_wp2_with fail
 refine wp_loop_once ?_;go_wp2_with fail
 go_ret2
 exact⟨rfl,rfl⟩
theorem B0j (w:World) (g o n c:Nat) (l:List UInt8) (AE:At w g o (Lib.byteCells l)) (hn:l.length=n) (AM:n<=c) (AA:∀b∈l,b.toNat<128) (AH:n<4611686018427387904):
  Calls Tryz.prog 201 #[.slice (some ⟨g,o,none⟩) n c,.func (.func 200) #[] #[]] w (C4 w (.int .i64 (-1))):=by
 have AG:=A0 AE;have AB:=A0 AA;clear AE AA
 have AD:Calls Tryz.prog 238 #[.slice (some ⟨g,o,none⟩) n c,.func (.func 200) #[] #[],.bool true] w (C4 w (.int .i64 (-1))):=by
  go_enter Tryz.func238,Tryz.ntmps238
  go_wp2_with fail
  go_loop [7] (λi=>∃k:Nat,k<=n/\i= .int .i64 k) (λi=>n- (intOf i).toNat)
  case atStart=>exact⟨0,zW _,rfl⟩
  case round=>
   obtain⟨k,hk,rfl⟩:=hrel;by_cases AL:k<n
   ·have AC: (k:Int)<n:=by omega
    have hkc: (k:Int)<=c:=by omega
    have AJ:¬c=k:=by omega
    have hx:=AB.out (l.getD k 0) (by rw[List.getD_eq_getElem?_getD,zF (by omega)];exact List.getElem_mem (by omega));have hc:=W7 AG.out k (by omega);have hd:=B0b w g (o+k) (n-k) (c-k) (l.getD k 0).toNat (by omega) hx hc;have AI:=B2t w ((l.getD k 0).toNat:Int) (by omega);generalize (l.getD k 0).toNat=x at*;clear hc;go_wp2_with fail
    refine hd.mono ?_;rintro e w1 ⟨rfl,rfl⟩;go_wp2_with fail
    refine AI.mono ?_;rintro e w1 ⟨rfl,rfl⟩;go_wp2_with fail
    go_round
    case rel=>exact⟨k+1,by omega,by go_num⟩
    case measure=>simp[intOf];omega
   ·have AC:¬(k:Int)<n:=by omega
    go_wp2_with fail
    go_ret
    exact⟨rfl,rfl⟩
 go_enter Tryz.func201,Tryz.ntmps201
 go_wp2_with fail
 refine AD.mono ?_;rintro e w1 ⟨rfl,rfl⟩;go_wp2_with fail
 go_ret
 exact⟨rfl,rfl⟩
theorem A1M (w:World) (g o n c:Nat) (l:List UInt8) (AA:At w g o (Lib.byteCells l)) (hn:l.length=n+1) (hz:l[n]?=some 0) (AB:n<4611686018427387904):
  Calls Tryz.prog 202 #[.slice (some ⟨g,o,none⟩) (n+1) c] w (C4 w (.bool true)):=by
 have hc:=W7 AA n (by omega);have e: (l.getD n 0).toNat=0:=by rw[List.getD_eq_getElem?_getD,hz];rfl
 rw[e] at hc;have AD:IntKind.i64.wrap (((n+1:Nat):Int)-1)=(n:Int):=by rw[zQ _ (by omega)];omega
 have AC: (n:Int)< ((n+1:Nat):Int):=by omega
 clear AA hz e;go_enter Tryz.func202,Tryz.ntmps202
 go_wp2_with fail
 go_ret
 exact⟨rfl,rfl⟩
structure RdV where
 mode:Nat
 uid:Nat
 gid:Nat
 size:Nat
 mtime:Nat
 maj:Nat
 mnr:Nat
structure RdF (B:C1) (V:RdV):Prop extends RdB B where
 low:∀b∈B.bytes,b.toNat<128
 mode:P8 B.mode V.mode
 uid:P8 B.uid V.uid
 gid:P8 B.gid V.gid
 size:P8 B.size V.size
 mtime:P8 B.mtime V.mtime
 maj:P8 B.maj V.maj
 mnr:P8 B.mnr V.mnr
 zmode:B.mode[7]?=some 0
 zuid:B.uid[7]?=some 0
 zgid:B.gid[7]?=some 0
 zsize:B.size[11]?=some 0
 zmtime:B.mtime[11]?=some 0
 zmaj:B.maj[7]?=some 0
 zmnr:B.mnr[7]?=some 0
def A0x (B:C1):List UInt8:=D4 (B.rest.take 155)
def A0U (B:C1):List UInt8:=if A0x B=[] then D4 B.name else A0x B++47::D4 B.name
def Hd.nil:Hd:=⟨0,[],[],0,0,0,0,[],[],0,0,0,0,0,0,0,0,.map none,.map none,0⟩
def J9 (B:C1):Int:=(B.typ[0]?.getD 0).toNat
def A2V (B:C1) (V:RdV):Hd:= {Hd.nil with typ:=J9 B,name:=D4 B.name,link:=D4 B.link,size:=V.size,mode:=V.mode,uid:=V.uid,gid:=V.gid,mx:=V.mtime+62135596800}
def O7 (B:C1) (V:RdV):Hd:= {A2V B V with name:=A0U B,user:=D4 B.user,group:=D4 B.group,maj:=V.maj,mnr:=V.mnr,fmt:=6}
structure Z9 (tr r:Nat) (pad:Int) (curr err:Value) (B:C1) (pb hb:Nat) (H:Hd) (v0 w:World):Prop where
 T:TR tr r pad curr (Lib.byteCells B.bytes) err w
 P:w.cell? ⟨pb,0,none⟩=some .nilIface
 Hh:w.heap[hb]?=some (.cells H.cells.toArray 130 (0,0))
 F:Below v0.heap.size v0 w
 h0:v0.heap.size<=hb
 hp:pb≠hb
 ht:tr<v0.heap.size
theorem Z9.below {tr r:Nat} {AC:Int} {AA AB:Value} {B:C1} {pb hb:Nat} {H:Hd} {v0 w w':World} (h:Z9 tr r AC AA AB B pb hb H v0 w) (f:Below w.heap.size w w'):Z9 tr r AC AA AB B pb hb H v0 w':=
 ⟨⟨(f.block tr (A8 h.T.1)).trans h.T.1,h.T.2⟩,(f.cell (zC h.P)).trans h.P,(f.block hb (A8 h.Hh)).trans h.Hh,h.F.trans (f.mono h.F.size),h.h0,h.hp,h.ht⟩
theorem Z9.set {tr r:Nat} {AC:Int} {AA AB:Value} {B:C1} {pb hb:Nat} {H:Hd} {v0 w:World} (h:Z9 tr r AC AA AB B pb hb H v0 w) (k:Nat) (v:Value) (H2:Hd) (he:H.cells.set k v=H2.cells):Z9 tr r AC AA AB B pb hb H2 v0 (w.setCell ⟨hb,k,none⟩ v):=by
 have ht:=h.ht;have h0:=h.h0;refine⟨⟨(C0 _ (show tr≠hb by omega)).trans h.T.1,h.T.2⟩,?_,?_,h.F.setCell (p:=⟨hb,k,none⟩) h.h0 _,h.h0,h.hp,h.ht⟩
 ·exact(QD w ⟨hb,k,none⟩ ⟨pb,0,none⟩ _ (λe=>h.hp (by cases e;rfl))).trans h.P
 ·have:=B6 (i:=k) v h.Hh
  rw[this,List.setIfInBounds_toArray,he]
theorem Z9.hz {tr r:Nat} {AC:Int} {AA AB:Value} {B:C1} {pb hb:Nat} {H:Hd} {v0 w:World} (h:Z9 tr r AC AA AB B pb hb H v0 w) (k:Nat):w.frozen? ⟨hb,k,none⟩=false:=zE h.Hh k
theorem Z9.hc {tr r:Nat} {AC:Int} {AA AB:Value} {B:C1} {pb hb:Nat} {H:Hd} {v0 w:World} (h:Z9 tr r AC AA AB B pb hb H v0 w) (k:Nat) (v:Value) (hv:H.cells[k]?=some v):w.cell? ⟨hb,k,none⟩=some v:=by
 rw[zA h.Hh,List.getElem?_toArray,hv]
theorem Z9.at {tr r:Nat} {AC:Int} {AA AB:Value} {B:C1} {pb hb:Nat} {H:Hd} {v0 w:World} (h:Z9 tr r AC AA AB B pb hb H v0 w):At w tr 3 (Lib.byteCells B.bytes):=h.T.at
noncomputable def B3H:Code:=I2 16 (Tryz.f148.body.getD .skip)
noncomputable def B3I:Code:=I2 25 (Tryz.f148.body.getD .skip)
end Go.Proofs.YtkanmkcojlefbaaGreatDoor
