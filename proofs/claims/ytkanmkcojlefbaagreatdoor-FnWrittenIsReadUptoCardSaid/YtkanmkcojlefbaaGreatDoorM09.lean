/-
  Part of the proof; holds the texts PaxT, VNum, FmtN, StepN.
-/
import Derived.Lib.AppendIntMem
import Derived.Test.YtkanmkcojlefbaaGreatDoorM08
import Derived.Test.YtkanmkcojlefbaaGreatDoorM05
set_option maxRecDepth 100000
set_option linter.unusedSimpArgs false
set_option linter.unusedVariables false
namespace Go.Proofs.YtkanmkcojlefbaaGreatDoor
open Go.RowKit
theorem A1p {G0:Nat} {E:Nat->Addr} (w:World) (h:Gl G0 E w) (n:Int) (h0: -9223372036854775808<=n) (h1:n<=9223372036854775807):
  Calls Tryz.prog 101 #[.int .i64 n,.int .i64 10] w λe w'=>e= .returned (str (Lib.itoa n))/\Below w.heap.size w w':=by
 refine(Tryz.strconv_FormatInt_10 n h0 h1 w h.pow).mono ?_;rintro e w' ⟨rfl,k,os,rfl⟩;exact⟨rfl,Lib.below_grow _ w (zB _) k os⟩
theorem B2a {G0:Nat} {E:Nat->Addr} (w:World) (h:Gl G0 E w) (n:Int) (h0: -9223372036854775808<=n) (h1:n<=9223372036854775807):
  Calls Tryz.prog 190 #[.int .i64 n] w λe w'=>e= .returned (str (Lib.itoa n))/\Below w.heap.size w w':=by
 refine(Tryz.strconv_Itoa n h0 h1 w h.pow).mono ?_;rintro e w' ⟨rfl,k,os,rfl⟩;exact⟨rfl,Lib.below_grow _ w (zB _) k os⟩
theorem A5B {G0:Nat} {E:Nat->Addr} (w:World) (h:Gl G0 E w) (n:Nat) (hn:n<1000000000):
  Calls Tryz.prog 171 #[.int .i64 n] w λe w'=>e= .returned (str (R7 n))/\Below w.heap.size w w':=by
 have hd:=B2a w h n (by omega) (by omega);rw[A2H _ (by omega)] at hd;have hl:=I4 n 8 (by omega);rw[<-Lib.decDigits_length] at hl;have HD:Hid (R7 n=List.replicate (9- (Lib.decDigits n).length) 48++Lib.decDigits n):=A0 rfl;clear h;have e0: ((n:Int)).toNat=n:=by omega
 rw[e0] at hd;generalize Lib.decDigits n=ds at*;go_enter Tryz.func171,Tryz.ntmps171
 go_wp2_with fail
 refine hd.mono ?_;rintro e w1 ⟨rfl,hb⟩;go_wp2_with fail
 go_loop [3] (λs=>∃z:Nat,z+ds.length<=9/\s=str (List.replicate z 48++ds)) (λs=>match s with| .string x=>9-x.size|_=>0)
 case atStart=>exact⟨0,by omega,rfl⟩
 case round=>
  obtain⟨z,hz,rfl⟩:=hrel;have Hb:=A0 hb;clear hb;have AA: (List.replicate z (48:UInt8)++ds).length=z+ds.length:=by simp
  by_cases AD:z+ds.length<9
  ·have AB: (((List.replicate z (48:UInt8)++ds).length:Nat):Int)<9:=by rw[AA];omega
   generalize hL:List.replicate z (48:UInt8)++ds=L at*;have HL:=A0 hL;clear hL;go_wp2_with fail
   go_round
   case rel=>
    refine⟨z+1,by omega,?_⟩;have: (⟨#[48]⟩:ByteArray)++⟨L.toArray⟩=⟨(48::L).toArray⟩:=V5 [48] L;rw[this,<-HL.out];rfl
   case measure=>
    have: ((⟨#[48]⟩:ByteArray)++⟨L.toArray⟩:ByteArray).size=L.length+1:=by rw[show(⟨#[48]⟩:ByteArray)++⟨L.toArray⟩=⟨(48::L).toArray⟩ from V5 [48] L,I6];rfl
    simp only[this,I6];omega
  ·have AC:9-ds.length=z:=by omega
   have AB:¬(((List.replicate z (48:UInt8)++ds).length:Nat):Int)<9:=by rw[AA];omega
   rw[AC] at HD;generalize List.replicate z (48:UInt8)++ds=L at*;go_wp2_with fail
   go_ret
   exact⟨by rw[HD.out];rfl,Hb.out⟩
def B1q (l:List UInt8) (w:World) (e:Ending) (w':World):Prop:=e= .returned (str l)/\Below w.heap.size w w'
theorem A1P {G0:Nat} {E:Nat->Addr} (w:World) (h:Gl G0 E w) (n x:Int) (h0:0<=n) (h1:n<1000000000) (hx: -100000000000000000<=x-62135596800/\x-62135596800<=100000000000000000):
  Calls Tryz.prog 105 #[tmV n x] w (B1q (C9 (x-62135596800) n) w):=by
 have a1:=zI w (.cells #[.int .u64 n,.int .i64 x] 126);have AU:=h.alloc (.cells #[.int .u64 n,.int .i64 x] 126);have AT:=(zD w.heap.size w).alloc (zB _) (.cells #[.int .u64 n,.int .i64 x] 126);generalize AV:w.alloc (.cells #[.int .u64 n,.int .i64 x] 126)=w1 at*;have c0:w1.cell? ⟨w.heap.size,0,none⟩=some (.int .u64 n):=by rw[zA a1];rfl
 have c1:w1.cell? ⟨w.heap.size,1,none⟩=some (.int .i64 x):=by rw[zA a1];rfl
 have AL:=A8 a1;have AR:=A0 (A0k w1.drew n x h0 h1 hx);have AS:=λw'=>A0 (A6a w' n x h0 h1);have HG:=A0 AU;have AM:=A0 AT;have AW:=A0 AV;clear a1 AU AT h;go_enter Tryz.func105,Tryz.ntmps105
 go_wp2_with fail
 go_region_held3 (λw'=>w'.cell? ⟨w.heap.size,0,none⟩=some (.int .u64 n)/\w'.cell? ⟨w.heap.size,1,none⟩=some (.int .i64 x)) (first|go_keep|(refine And.intro ?_ ?_<;>assumption))
  (first|(go_at_call 103;refine AR.out.mono ?_;rintro e w2 ⟨rfl,AC⟩;have d0:=(AC.cell (p:=⟨w.heap.size,0,none⟩) AL).trans c0;have d1:=(AC.cell (p:=⟨w.heap.size,1,none⟩) AL).trans c1)|(go_at_call 104;refine(AS _).out.mono ?_;rintro e w3 ⟨rfl,AJ⟩;have e0:=(AJ.cell (p:=⟨w.heap.size,0,none⟩) (zL AL AC.size)).trans d0;have e1:=(AJ.cell (p:=⟨w.heap.size,1,none⟩) (zL AL AC.size)).trans d1))
 have AQ:Below w1.heap.size w1 w3:=((zD _ w1).drew.trans AC).trans (AJ.mono AC.size);have AE:=A0 (AM.out.trans (AQ.mono (by have:=AM.out.size;exact this)));have AH:=A0 (HG.out.below AQ);clear c0 c1 d0 d1 e0 e1 AC AJ AQ AR AS AV AW AM;generalize hS:x-62135596800=S at*;by_cases AB:n=0
 ·have t0: (n==0)=true:=by simp[AB]
  have hP:C9 S n=Lib.itoa S:=by rw[C9,if_pos AB]
  have HP:=A0 hP;have hf:=A1p w3 AH.out S (by omega) (by omega);clear AB hP hS;go_wp2_with fail
  refine hf.mono ?_;rintro e w4 ⟨rfl,AA⟩;go_wp2_with fail
  go_ret
  exact⟨by rw[HP.out];rfl,AE.out.trans (AA.mono AE.out.size)⟩
 ·have t0: (n==0)=false:=by simp[AB]
  by_cases hs:S<0
  ·have hP:C9 S n=L5 (45::(Lib.itoa (-(S+1))++46::R7 (1000000000-n).toNat)) 48:=by rw[C9,if_neg AB,if_pos hs]
   have AZ:IntKind.i64.wrap (S+1)=S+1:=zQ _ (by omega);have Aa:IntKind.i64.wrap (-(S+1))= -(S+1):=zQ _ (by omega);have Ab:IntKind.i64.wrap (n-1000000000)=n-1000000000:=zQ _ (by omega);have Ac:IntKind.i64.wrap (-(n-1000000000))= -(n-1000000000):=zQ _ (by omega);have hf:=A1p w3 AH.out (-(S+1)) (by omega) (by omega);have AD:=λw' (h:Gl G0 E w')=>A5B w' h (1000000000-n).toNat (by omega);rw[show(((1000000000-n).toNat:Nat):Int)= -(n-1000000000) by omega] at AD;have HP:=A0 hP;have HN:=A0 AD
   have AX: (Lib.itoa (-(S+1))).length<=1000:=by
    rw[A2H _ (by omega),Lib.decDigits_length];have:=I4 (-(S+1)).toNat 18 (by omega);omega
   have AY: (R7 (1000000000-n).toNat).length<=1000:=by rw[P6 _ (by omega)];omega
   clear AB hP hS AD;generalize Lib.itoa (-(S+1))=A at*;generalize R7 (1000000000-n).toNat=C at*;go_wp2_with fail
   refine hf.mono ?_;rintro e w4 ⟨rfl,AA⟩;have AG:=A0 (AE.out.trans (AA.mono AE.out.size));have AP:=A0 (AH.out.below AA);clear AA hf;go_wp2_with fail
   refine(HN.out _ AP.out).mono ?_;rintro e w5 ⟨rfl,AI⟩;have AO:=A0 (AG.out.trans (AI.mono AG.out.size));clear AI;go_wp2_with fail
   have e1: (⟨#[45]⟩:ByteArray)++⟨A.toArray⟩++⟨#[46]⟩++⟨C.toArray⟩=⟨(45::(A++46::C)).toArray⟩:=by
    rw[show(⟨#[45]⟩:ByteArray)=⟨[45].toArray⟩ from rfl,show(⟨#[46]⟩:ByteArray)=⟨[46].toArray⟩ from rfl,V5,V5,V5];simp
   rw[e1];refine(A0O (45::(A++46::C)) 48 w5 (by simp;omega)).mono ?_;rintro e w6 ⟨rfl,nd,rfl⟩;go_wp2_with fail
   go_ret
   exact⟨by rw[HP.out];rfl,AO.out.trans ⟨rfl,rfl,rfl,zB _,λ_ _=>rfl⟩⟩
  ·have hP:C9 S n=L5 (Lib.itoa S++46::R7 n.toNat) 48:=by rw[C9,if_neg AB,if_neg hs]
   have hf:=A1p w3 AH.out S (by omega) (by omega);have AD:=λw' (h:Gl G0 E w')=>A5B w' h n.toNat (by omega);rw[show((n.toNat:Nat):Int)=n by omega] at AD;have HP:=A0 hP;have HN:=A0 AD
   have AX: (Lib.itoa S).length<=1000:=by
    rw[A2H _ (by omega),Lib.decDigits_length];have:=I4 S.toNat 18 (by omega);omega
   have AY: (R7 n.toNat).length<=1000:=by rw[P6 _ (by omega)];omega
   clear AB hP hS AD;generalize Lib.itoa S=A at*;generalize R7 n.toNat=C at*;go_wp2_with fail
   refine hf.mono ?_;rintro e w4 ⟨rfl,AA⟩;have AG:=A0 (AE.out.trans (AA.mono AE.out.size));have AP:=A0 (AH.out.below AA);clear AA hf;go_wp2_with fail
   refine(HN.out _ AP.out).mono ?_;rintro e w5 ⟨rfl,AI⟩;have AO:=A0 (AG.out.trans (AI.mono AG.out.size));clear AI;go_wp2_with fail
   have e1: (⟨#[]⟩:ByteArray)++⟨A.toArray⟩++⟨#[46]⟩++⟨C.toArray⟩=⟨(A++46::C).toArray⟩:=by
    rw[show(⟨#[]⟩:ByteArray)=⟨[].toArray⟩ from rfl,show(⟨#[46]⟩:ByteArray)=⟨[46].toArray⟩ from rfl,V5,V5,V5];simp
   rw[e1];refine(A0O (A++46::C) 48 w5 (by simp;omega)).mono ?_;rintro e w6 ⟨rfl,nd,rfl⟩;go_wp2_with fail
   go_ret
   exact⟨by rw[HP.out];rfl,AO.out.trans ⟨rfl,rfl,rfl,zB _,λ_ _=>rfl⟩⟩
def M2 (n:Nat) (x:Int):Bool:=decide (9<=n)||(decide (-72057594037927936<=x)&&decide (x<72057594037927936))
theorem A4X (w:World) (n:Nat) (x:Int) (hn:n=8\/n=12):Calls Tryz.prog 99 #[.int .i64 n,.int .i64 x] w (C4 w (.bool (M2 n x))):=by
 rcases hn with rfl|rfl
 ·have e:M2 8 x=(decide (-72057594037927936<=x)&&decide (x<72057594037927936)):=by simp[M2]
  rw[e];go_enter Tryz.func99,Tryz.ntmps99
  go_wp2
  all_goals (go_ret;exact⟨by congr 2;simp;omega,rfl⟩)
 ·have e:M2 12 x=true:=by simp[M2]
  rw[e];go_enter Tryz.func99,Tryz.ntmps99
  go_wp2
  go_ret
  exact⟨rfl,rfl⟩
def A3G (m:KV) (x:Int) (n:Nat) (key:List UInt8):KV:=if B8 n x then m else O2 m key (Lib.itoa x)
def A2S (m R:KV) (x:Int) (n:Nat) (key:List UInt8):KV:=if !B8 n x||decide (R key=some (Lib.itoa x)) then O2 m key (Lib.itoa x) else m
theorem B2u (m R:KV) (x:Int) (n:Nat) (key:List UInt8) (h:R key=some (Lib.itoa x)):O2 (A3G m x n key) key (Lib.itoa x)=A2S m R x n key:=by
 unfold A2S A3G;rw[zY h,Bool.or_true,if_pos rfl];split
 ·rfl
 ·exact A2k ..
theorem A6I (m R:KV) (x:Int) (n:Nat) (key:List UInt8) (h:R key≠some (Lib.itoa x)):A3G m x n key=A2S m R x n key:=by
 unfold A2S A3G;rw[zV h,Bool.or_false];cases B8 n x<;>rfl
theorem V0 (x:Int) (h:nIn x): (Lib.itoa x).length<=1000:=by
 have h0:=h.1;have h1:=h.2;rw[Lib.itoa];split
 ·have:=I4 x.natAbs 19 (by omega)
  rw[List.length_cons,Lib.decDigits_length];omega
 ·have:=I4 x.toNat 18 (by omega)
  rw[Lib.decDigits_length];omega
theorem A5b (G0:Nat) (E:Nat->Addr) (b0:Nat) (H:Hd) (R:KV) (u p g q:Bool) (m:KV) (k:Nat) (w:World) (h:AF G0 E b0 H R u p g q m k w) (x:Int) (n:Nat) (nm:List UInt8) (hx:nIn x) (Ad:n=8\/n=12) (Ai:nm.length<=20) (hk:k<1000) (key:List UInt8) (Ah:key.length<=20) (Ag:key.isEmpty=false):
  Calls Tryz.prog 98 #[.int .i64 x,.int .i64 n,str nm,str key,.pointer (some ⟨b0+6,0,none⟩),.pointer (some ⟨b0+1,0,none⟩),.pointer (some ⟨b0+4,0,none⟩),.pointer (some ⟨b0+5,0,none⟩),.pointer (some ⟨b0+2,0,none⟩),.pointer (some ⟨b0,0,none⟩)] w
   (A0R G0 E b0 H R (u&&B8 n x) p (g&&M2 n x) q (A2S m R x n key) (k+2) w):=by
 have AP:=hx.1;have AQ:=hx.2;have AG:=A4X w n x Ad;have h8:=λw'=>A2U x w' n (by omega) AP AQ;have HH:=A0 h;have H8:=A0 h8;have HL:=V0 x hx;clear h h8;go_enter Tryz.func98,Tryz.ntmps98
 go_upto_if 19 with (go_at_call 99;refine AG.mono ?_;rintro e w' ⟨rfl,rfl⟩)
 go_cut [] (λwx=>S5 G0 E b0 H R u p (g&&M2 n x) q m k w wx)
 case first=>
  have ⟨⟨x4,c4⟩,⟨x5,c5⟩,⟨x6,c6⟩,z4,z5,z6,c2,cR⟩:=HH.out.cells;have h1:=HH.out.setS3 ((⟨#[71,78,85,32,99,97,110,110,111,116,32,101,110,99,111,100,101,32]⟩:ByteArray)++⟨nm.toArray⟩);have hm:=I5 _ (b0+1) u p g h1.fF 8 u p false (.inr (.inr ⟨rfl,rfl,rfl,rfl⟩));have H1:=A0 h1;clear h1;cases hb:M2 n x
  ·go_wp2_with fail
   refine hm.mono ?_;rintro e w' ⟨rfl,rfl⟩;go_wp2_with fail
   go_meet
   refine⟨?_,(C8 b0 _ 6 _).trans (C8 b0 _ 1 _)⟩;rw[hb,Bool.and_false];exact H1.out.setF u p false
  ·go_wp2_with fail
   go_meet
   refine⟨?_,zD _ _⟩;rw[hb,Bool.and_true];exact HH.out
 case rest=>
  obtain⟨HA,HB⟩:=hcut;obtain⟨wo,rfl⟩:∃wo:World,wo=wc:=⟨_,rfl⟩;have AM:=A0 HA;have AZ:=A0 HB;have AW:=H8.out wo;clear HA HB AG;go_upto_if 26 with (go_at_call 100;refine AW.mono ?_;rintro e w' ⟨rfl,rfl⟩)
  go_cut [] (λwx=>S5 G0 E b0 H R (u&&B8 n x) p (g&&M2 n x) q (A3G m x n key) (k+1) wo wx)
  case first=>
   cases ho:B8 n x
   ·have Q0:Hid ((u&&B8 n x)=false):=A0 (by rw[ho,Bool.and_false])
    have Q1:Hid (A3G m x n key=O2 m key (Lib.itoa x)):=A0 (by unfold A3G;rw[ho];rfl);clear ho;have ⟨⟨x4,c4⟩,⟨x5,c5⟩,⟨x6,c6⟩,z4,z5,z6,c2,cR⟩:=AM.out.cells;have h4:=AM.out.setS1 ((⟨#[85,83,84,65,82,32,99,97,110,110,111,116,32,101,110,99,111,100,101,32]⟩:ByteArray)++⟨nm.toArray⟩);have hm:=I5 _ (b0+1) u p (g&&M2 n x) h4.fF 2 false p (g&&M2 n x) (.inl ⟨rfl,rfl,rfl,rfl⟩);have h5:=h4.setF false p (g&&M2 n x);have Aa:=h5.cells.2.2.2.2.2.2.1;have AH:=λw' (hg:Gl G0 E w')=>A1p w' hg x AP AQ;have H5:=A0 h5;clear h4 h5;go_wp2_with fail
    refine hm.mono ?_;rintro e w6 ⟨rfl,rfl⟩;go_wp2_with fail
    have AL:=A0 ((C8 b0 wo 4 (.string ((⟨#[85,83,84,65,82,32,99,97,110,110,111,116,32,101,110,99,111,100,101,32]⟩:ByteArray)++⟨nm.toArray⟩))).trans (C8 b0 _ 1 (.int .i64 (fm false p (g&&M2 n x)))));clear hm c4 c5 c6 z4 z5 z6 c2 cR;generalize (wo.setCell ⟨b0+4,0,none⟩ (.string ((⟨#[85,83,84,65,82,32,99,97,110,110,111,116,32,101,110,99,111,100,101,32]⟩:ByteArray)++⟨nm.toArray⟩))).setCell ⟨b0+1,0,none⟩ (.int .i64 (fm false p (g&&M2 n x)))=w7 at*;have HF:=A0 (AH w7.drew H5.out.gl.drew);have Af:=H5.out.lt;clear AH
    go_region_held3 (λw'=>w'.cell? ⟨b0+2,0,none⟩=some (.map (some (b0+3)))) (first|go_keep|assumption)
     (first|(go_at_call 101;refine HF.out.mono ?_;rintro e w8 ⟨rfl,AV⟩;have AS:=H5.out.below ((zD _ w7).drew.trans AV);have Ab:=A0 ((((zD _ w7).drew.trans AV)).mono (show b0<=w7.heap.size by omega));have d2:=AS.cells.2.2.2.2.2.2.1;obtain⟨w9,Ak,AT,Ac⟩:=AS.put (by omega) key (Lib.itoa x) (by omega) (by omega);have e2:=AT.cells.2.2.2.2.2.2.1))
    go_wp2_with fail
    go_meet
    refine⟨?_,AL.out.trans (Ab.out.trans Ac)⟩;rw[Q0.out,Q1.out];exact AT
   ·go_wp2_with fail
    go_meet
    refine⟨?_,zD _ _⟩;have q1:A3G m x n key=m:=by unfold A3G;rw[ho];rfl
    rw[ho,Bool.and_true,q1];exact AM.out.mono (by omega)
  case rest=>
   obtain⟨HA,HB⟩:=hcut;obtain⟨wp,rfl⟩:∃wp:World,wp=wc:=⟨_,rfl⟩;have AA:=A0 HA;have AC:=A0 (AZ.out.trans HB);have ⟨⟨x4,c4⟩,⟨x5,c5⟩,⟨x6,c6⟩,z4,z5,z6,c2,cR⟩:=HA.cells;have AI:=HA.lookR key (by omega);have AH:=A1p wp HA.gl x AP AQ;clear c4 c5 c6 z4 z5 z6 HB HA AW;cases AB:R key with
   |none=>
    rw[AB] at AI;simp only[Option.getD_none,Option.isSome_none] at AI;have AE:=A0 (A6I m R x n key (by rw[AB];simp));clear AB;go_wp2_with fail
    go_end0
    refine⟨rfl,?_,AC.out⟩;rw[<-AE.out];exact AA.out.mono (by omega)
   |some v=>
    rw[AB] at AI;simp only[Option.getD_some,Option.isSome_some] at AI;by_cases hv:v=Lib.itoa x
    ·have AE:=A0 (B2u m R x n key (by rw[AB,hv]))
     have Ae: (v==Lib.itoa x)=true:=by rw[hv];simp
     have Al:v.length<=1000:=by rw[hv];exact HL
     have HV:=A0 hv;clear AB hv;go_wp2_with fail
     refine AH.mono ?_;rintro e w4 ⟨rfl,AD⟩;have AO:=AA.out.below AD;have Aa:=AO.cells.2.2.2.2.2.2.1;have AJ:=A0 (AC.out.trans (AD.mono (by have:=AA.out.lt;omega)));obtain⟨w5,Aj,AR,AU⟩:=AO.put (by omega) key v (by omega) (by omega);have AY:=A0 AR;have AL:=A0 (AJ.out.trans AU);clear AR AU AD AO c2;go_wp2_with fail
     go_end0
     refine⟨rfl,?_,AL.out⟩;have:=AY.out;rw[HV.out,AE.out] at this;exact this
    ·have AE:=A0 (A6I m R x n key (by rw[AB];intro e;cases e;exact hv rfl))
     have Ae: (v==Lib.itoa x)=false:=by rw[zG];exact hv
     clear AB hv;go_wp2_with fail
     refine AH.mono ?_;rintro e w4 ⟨rfl,AD⟩;have AX:=A0 (AA.out.below AD);have AJ:=A0 (AC.out.trans (AD.mono (by have:=AA.out.lt;omega)));clear AD c2;go_wp2_with fail
     go_end0
     refine⟨rfl,?_,AJ.out⟩;rw[<-AE.out];exact AX.out.mono (by omega)
theorem A3u (G0:Nat) (E:Nat->Addr) (b0:Nat) (H:Hd) (R:KV) (u p g q:Bool) (m:KV) (k:Nat) (w:World) (h:AF G0 E b0 H R u p g q m k w) (x:Int) (n:Nat) (nm:List UInt8) (hx:nIn x) (AM:n=8\/n=12) (AQ:nm.length<=20) (hk:k<1000) (AE:R []=none):
  Calls Tryz.prog 98 #[.int .i64 x,.int .i64 n,str nm,str [],.pointer (some ⟨b0+6,0,none⟩),.pointer (some ⟨b0+1,0,none⟩),.pointer (some ⟨b0+4,0,none⟩),.pointer (some ⟨b0+5,0,none⟩),.pointer (some ⟨b0+2,0,none⟩),.pointer (some ⟨b0,0,none⟩)] w
   (A0R G0 E b0 H R (u&&B8 n x) (p&&B8 n x) (g&&M2 n x) q m (k+2) w):=by
 have AO:=hx.1;have AP:=hx.2;have AA:=A4X w n x AM;have h8:=λw'=>A2U x w' n (by omega) AO AP;have HH:=A0 h;have H8:=A0 h8;have HL:=V0 x hx;clear h h8;go_enter Tryz.func98,Tryz.ntmps98
 go_upto_if 19 with (go_at_call 99;refine AA.mono ?_;rintro e w' ⟨rfl,rfl⟩)
 go_cut [] (λwx=>S5 G0 E b0 H R u p (g&&M2 n x) q m k w wx)
 case first=>
  have ⟨⟨x4,c4⟩,⟨x5,c5⟩,⟨x6,c6⟩,z4,z5,z6,c2,cR⟩:=HH.out.cells;have h1:=HH.out.setS3 ((⟨#[71,78,85,32,99,97,110,110,111,116,32,101,110,99,111,100,101,32]⟩:ByteArray)++⟨nm.toArray⟩);have hm:=I5 _ (b0+1) u p g h1.fF 8 u p false (.inr (.inr ⟨rfl,rfl,rfl,rfl⟩));have H1:=A0 h1;clear h1;cases hb:M2 n x
  ·go_wp2_with fail
   refine hm.mono ?_;rintro e w' ⟨rfl,rfl⟩;go_wp2_with fail
   go_meet
   refine⟨?_,(C8 b0 _ 6 _).trans (C8 b0 _ 1 _)⟩;rw[hb,Bool.and_false];exact H1.out.setF u p false
  ·go_wp2_with fail
   go_meet
   refine⟨?_,zD _ _⟩;rw[hb,Bool.and_true];exact HH.out
 case rest=>
  obtain⟨HA,HB⟩:=hcut;obtain⟨wo,rfl⟩:∃wo:World,wo=wc:=⟨_,rfl⟩;have AB:=A0 HA;have AJ:=A0 HB;have AG:=H8.out wo;clear HA HB AA;go_upto_if 26 with (go_at_call 100;refine AG.mono ?_;rintro e w' ⟨rfl,rfl⟩)
  go_cut [] (λwx=>S5 G0 E b0 H R (u&&B8 n x) (p&&B8 n x) (g&&M2 n x) q m (k+1) wo wx)
  case first=>
   cases ho:B8 n x
   ·have Q0:Hid ((u&&B8 n x)=false):=A0 (by rw[ho,Bool.and_false])
    have Q1:Hid ((p&&B8 n x)=false):=A0 (by rw[ho,Bool.and_false]);clear ho;have ⟨⟨x4,c4⟩,⟨x5,c5⟩,⟨x6,c6⟩,z4,z5,z6,c2,cR⟩:=AB.out.cells;have h4:=AB.out.setS1 ((⟨#[85,83,84,65,82,32,99,97,110,110,111,116,32,101,110,99,111,100,101,32]⟩:ByteArray)++⟨nm.toArray⟩);have hm:=I5 _ (b0+1) u p (g&&M2 n x) h4.fF 2 false p (g&&M2 n x) (.inl ⟨rfl,rfl,rfl,rfl⟩);have h5:=h4.setF false p (g&&M2 n x);have h6:=h5.setS2 ((⟨#[80,65,88,32,99,97,110,110,111,116,32,101,110,99,111,100,101,32]⟩:ByteArray)++⟨nm.toArray⟩);obtain⟨-,⟨y5,d5⟩,-,-,AR,-,-,-⟩:=h5.cells;have AL:=I5 _ (b0+1) false p (g&&M2 n x) h6.fF 4 false false (g&&M2 n x) (.inr (.inl ⟨rfl,rfl,rfl,rfl⟩));have h7:=h6.setF false false (g&&M2 n x);have H7:=A0 h7;have AI:=A0 ((((C8 b0 wo 4 (.string ((⟨#[85,83,84,65,82,32,99,97,110,110,111,116,32,101,110,99,111,100,101,32]⟩:ByteArray)++⟨nm.toArray⟩))).trans (C8 b0 _ 1 (.int .i64 (fm false p (g&&M2 n x))))).trans (C8 b0 _ 5 (.string ((⟨#[80,65,88,32,99,97,110,110,111,116,32,101,110,99,111,100,101,32]⟩:ByteArray)++⟨nm.toArray⟩)))).trans (C8 b0 _ 1 (.int .i64 (fm false false (g&&M2 n x)))));clear h4 h5 h6 h7 c5 z5 c6 z6 c2 cR;go_wp2_with fail
    refine hm.mono ?_;rintro e w6 ⟨rfl,rfl⟩;go_wp2_with fail
    refine AL.mono ?_;rintro e w7 ⟨rfl,rfl⟩;go_wp2_with fail
    go_meet
    refine⟨?_,AI.out⟩;rw[Q0.out,Q1.out];exact H7.out.mono (by omega)
   ·go_wp2_with fail
    go_meet
    refine⟨?_,zD _ _⟩;rw[ho,Bool.and_true,Bool.and_true];exact AB.out.mono (by omega)
  case rest=>
   obtain⟨HA,HB⟩:=hcut;obtain⟨wp,rfl⟩:∃wp:World,wp=wc:=⟨_,rfl⟩;have AC:=A0 HA;have AD:=A0 (AJ.out.trans HB);have ⟨⟨x4,c4⟩,⟨x5,c5⟩,⟨x6,c6⟩,z4,z5,z6,c2,cR⟩:=HA.cells;have AH:=HA.lookR [] (by decide);rw[AE] at AH;simp only[Option.getD_none,Option.isSome_none] at AH;clear c4 c5 c6 z4 z5 z6 HB HA AG AE;go_wp2_with fail
   go_end0
   exact⟨rfl,AC.out.mono (by omega),AD.out⟩
def bb:Nat->Int->List UInt8
 |0,_=> []
 |k+1,x=>UInt8.ofNat ((x/256^k)% 256).toNat::bb k x
theorem A3W (k:Nat) (x:Int): (bb k x).length=k:=by
 induction k with
 |zero=>rfl
 |succ k ih=>simp[bb,ih]
theorem E4.set1 {w:World} {g:Nat} {T:TypeId} {AA post:List Value} {a c:List UInt8} {x:UInt8} (y:UInt8) (h:E4 w g T AA (a++x::c) post):E4 (w.setCell ⟨g,AA.length+a.length,none⟩ (.int .u8 y.toNat)) g T AA (a++y::c) post:=by
 have:=B6 (i:=AA.length+a.length) (.int .u8 y.toNat) h;rw[List.setIfInBounds_toArray] at this;refine this.trans ?_;congr 2
 rw[QG,List.set_append_right _ _ (by omega),show AA.length+a.length-AA.length=a.length by omega];simp[Lib.byteCells,List.set_append_right]
def L0 (n:Nat) (x:Int):List UInt8:=match bb n x with
 | []=> []
 |b::r=>(b|||128)::r
theorem B7N (b:UInt8):bits .or .u8 (b.toNat:Int) 128=((b|||128).toNat:Int):=by
 have:=u8_or_nat b.toNat 128 b.toNat_lt (by decide);rw[UInt8.toNat_or];exact this
theorem A2z (w:World) (fb g n c:Nat) (x:Int) (T:TypeId) (AA:List Value) (AB:List UInt8) (post:List Value) (h:E4 w g T AA AB post) (hn:AB.length=n) (AL:n=8\/n=12) (AR:n<=c)
  (hx:B8 n x=false) (AC:M2 n x=true) (AM: -9223372036854775808<=x) (AO:x<=9223372036854775807):
  Calls Tryz.prog 144 #[.pointer (some ⟨fb,0,none⟩),.slice (some ⟨g,AA.length,none⟩) n c,.int .i64 x] w λe w'=>e= .returned (.tuple #[])/\E4 w' g T AA (L0 n x) post/\Fr w.heap.size [g] w w':=by
 have hf:=A2U x w n (by omega) AM AO;have AE:=A4X w n x AL;rw[hx] at hf;rw[AC] at AE;have AQ: (n:Int)<=12/\(8:Int)<=n:=by omega
 have HS:=A0 h;clear h;go_enter Tryz.func144,Tryz.ntmps144
 go_wp2_with fail
 refine hf.mono ?_;rintro e w1 ⟨rfl,rfl⟩;go_wp2_with fail
 refine AE.mono ?_;rintro e w1 ⟨rfl,rfl⟩;go_wp2_with fail
 go_loopw [6,2] (λs6 s2 wr=>∃j:Nat,j<=n/\s6= .int .i64 ((n:Int)-1-j)/\s2= .int .i64 (x/256^j)/\Hid (E4 wr g T AA (AB.take (n-j)++bb j x) post/\Fr w.heap.size [g] w wr)) (λs6 _ _=>(intOf s6+1).toNat)
 case atStart=>exact⟨0,zW _,by simp,by simp,A0 ⟨by simpa[bb,<-hn] using HS.out,Fr.refl _ _ _⟩⟩
 case round=>
  obtain⟨j,hj,rfl,rfl,HW⟩:=hrel;by_cases AP:j<n
  ·have AI: (0:Int)<=(n:Int)-1-j:=by omega
   have hi: (n:Int)-1-j=((n-1-j:Nat):Int):=by omega
   rw[hi];have AJ: ((n-1-j:Nat):Int)<n:=by omega
   generalize hy:x/256^j=y at*;obtain⟨xo,AG⟩:∃xo,AB[n-1-j]?=some xo:=⟨_,zF (by omega)⟩;have hz:=HW.out.1.frozen (n-1-j);have hc:=HW.out.1.cell (n-1-j) xo (by rw[zX (by rw[zR];omega),List.getElem?_take_of_lt (by omega)];exact AG)
   have HP:Hid (E4 (wr.setCell ⟨g,AA.length+(n-1-j),none⟩ (.int .u8 (y% 256))) g T AA (AB.take (n- (j+1))++bb (j+1) x) post/\Fr w.heap.size [g] w (wr.setCell ⟨g,AA.length+(n-1-j),none⟩ (.int .u8 (y% 256)))):=A0 ⟨by
    have h1:=HW.out.1;rw[show n-j=n-1-j+1 by omega,List.take_add_one,AG,QG] at h1;have h2:=E4.set1 (UInt8.ofNat (y% 256).toNat) h1;rw[zR,show min (n-1-j) AB.length=n-1-j by omega] at h2
    have e3: ((UInt8.ofNat (y% 256).toNat).toNat:Int)=y% 256:=by
     rw[UInt8.toNat_ofNat'];omega
    rw[e3] at h2;rw[show n- (j+1)=n-1-j by omega,bb,hy];exact h2,HW.out.2.setCell (.inl (by simp)) _⟩
   have AH:x/256^ (j+1)=y/256:=by rw[<-hy,Int.pow_succ];exact(Int.ediv_ediv_of_nonneg (Int.pow_nonneg (by decide: (0:Int)<=256))).symm
   have HY:=A0 AH;clear AH;go_wp2_with fail
   exact⟨⟨j+1,by omega,by congr 1;omega,by rw[HY.out],HP.out⟩,by simp[intOf]⟩
  ·obtain rfl:j=n:=by omega
   have AI:¬(0:Int)<=(j:Int)-1-j:=by omega
   have h1:=HW.out.1;rw[Nat.sub_self,List.take_zero,List.nil_append] at h1
   obtain⟨b,r,AD⟩:∃b r,bb j x=b::r:=by
    cases h2:bb j x with
    |nil=>have:=A3W j x;rw[h2] at this;simp at this;omega
    |cons b r=>exact⟨b,r,rfl⟩
   rw[AD] at h1;have hz:=h1.frozen 0;have hc:=h1.cell 0 b rfl;rw[Nat.add_zero] at hz hc;have hs:=E4.set1 (a:=[]) (b|||128) (show E4 wr g T AA ([]++b::r) post from h1);have HF:Hid (E4 (wr.setCell ⟨g,AA.length,none⟩ (.int .u8 (b|||128).toNat)) g T AA (L0 j x) post/\Fr w.heap.size [g] w (wr.setCell ⟨g,AA.length,none⟩ (.int .u8 (b|||128).toNat))):=A0 ⟨by rw[L0,AD];exact hs,HW.out.2.setCell (.inl (by simp)) _⟩;have eb:bits .or .u8 (b.toNat:Int) 128=((b|||128).toNat:Int):=B7N b;clear hs h1 HW;go_wp2_with fail
   refine bodyPost_ret (results_none rfl _ _ _) rfl ?_;exact⟨rfl,HF.out⟩
def D9 (n:Nat) (x:Int):List UInt8:=if B8 n x then C2 n x.toNat else L0 n x
theorem A3A (w:World) (fb g n c:Nat) (x:Int) (T:TypeId) (AA:List Value) (AB:List UInt8) (post:List Value) (h:E4 w g T AA AB post) (hn:AB.length=n) (AI:n=8\/n=12) (AE:n<=c)
  (AC:B8 n x=true\/M2 n x=true) (AG: -9223372036854775808<=x) (AH:x<=9223372036854775807) (hg:g≠15) (AD:w.cell? ⟨15,7,none⟩=some (.int .u8 3)):
  Calls Tryz.prog 144 #[.pointer (some ⟨fb,0,none⟩),.slice (some ⟨g,AA.length,none⟩) n c,.int .i64 x] w λe w'=>e= .returned (.tuple #[])/\E4 w' g T AA (D9 n x) post/\Fr w.heap.size [g] w w':=by
 cases hx:B8 n x with
 |false=>
  rw[D9,hx];refine A2z w fb g n c x T AA AB post h hn AI AE hx ?_ AG AH;rcases AC with h|h
  ·rw[hx] at h;cases h
  ·exact h
 |true=>
  rw[D9,hx];have hf:=A2U x w n (by omega) AG AH;rw[hx] at hf;have hO:=A0 (U1 w fb g n c x T AA AB post h hn (by omega) AE hx hg AD);have AJ: (n:Int)<=12/\(8:Int)<=n:=by omega
  clear AD h;go_enter Tryz.func144,Tryz.ntmps144
  go_wp2_with fail
  refine hf.mono ?_;rintro e w1 ⟨rfl,rfl⟩;go_wp2_with fail
  refine hO.out.mono ?_;rintro e w1 ⟨rfl,h1,h2⟩;have H1:=A0 h1;have H2:=A0 h2;clear h1 h2;go_wp2_with fail
  refine bodyPost_ret (results_none rfl _ _ _) rfl ?_;exact⟨rfl,H1.out,H2.out⟩
def X5 (n:Nat) (x:Int):Prop:=(B8 n x=true\/M2 n x=true)/\-9223372036854775808<=x/\x<=9223372036854775807
theorem X5.w12 {x:Int} (h0: -9223372036854775808<=x) (h1:x<=9223372036854775807):X5 12 x:=⟨.inr (by simp[M2]),h0,h1⟩
theorem A1U {n:Nat} {x:Int} (h:B8 n x=true):x.toNat<8^ (n-1):=by
 simp only[B8,decide_eq_true_eq] at h;have h2: ((x.toNat:Nat):Int)< ((8^ (n-1):Nat):Int):=by rw[Int.toNat_of_nonneg h.1];exact_mod_cast h.2
 omega
theorem K7 (n:Nat) (x:Int) (hn:2<=n): (D9 n x).length=n:=by
 unfold D9;split
 ·rename_i h
  exact D2 n _ hn (A1U h)
 ·unfold L0
  obtain⟨k,rfl⟩:∃k,n=k+1:=⟨n-1,by omega⟩;show(match bb (k+1) x with| []=> []|b::r=>(b|||128)::r).length=k+1
  simp[bb,A3W]
section
variable {tw b fw:Nat} {pad:Int} {hdr:List Value} {fb:Nat} {ferr:Value} {aE:Addr} {B:C1} {w:World}
theorem A4H (h:TB tw b fw pad hdr fb ferr aE B w) (n c o:Nat) (x:Int) (P Q:List Value) (AB:List UInt8) (B2:C1) (hs:E4 w tw 134 P AB Q) (hl:AB.length=n) (hn:n=8\/n=12) (hc:n<=c) (ho:P.length=o) (hx:X5 n x)
  (AA:∀w',E4 w' tw 134 P (D9 n x) Q->E4 w' tw 134 (A3S b fw pad hdr) B2.bytes [.nilIface]) (ok:B2.Ok):
  Calls Tryz.prog 144 #[.pointer (some ⟨fb,0,none⟩),.slice (some ⟨tw,o,none⟩) n c,.int .i64 x] w λe w'=>e= .returned (.tuple #[])/\TB tw b fw pad hdr fb ferr aE B2 w'/\Fr w.heap.size [tw,fb] w w':=by
 subst ho;refine(A3A w fb tw n c x 134 P AB Q hs hl hn hc hx.1 hx.2.1 hx.2.2 h.tw15 h.db).mono ?_;rintro e w' ⟨rfl,k1,k2⟩;have k3:=k2.wide (B':=w.heap.size) (S':=[tw,fb]) (zB _) (by simp);exact⟨rfl,h.next (AA w' k1) ok (k2.cells h.F (by simpa using h.ne) (.inr (by decide))) k3,k3⟩
theorem A5T (h:TB tw b fw pad hdr fb ferr aE B w) (x:Int) (hx:X5 8 x):
  Calls Tryz.prog 144 #[.pointer (some ⟨fb,0,none⟩),.slice (some ⟨tw,123,none⟩) 8 412,.int .i64 x] w λe w'=>e= .returned (.tuple #[])/\TB tw b fw pad hdr fb ferr aE {B with mode:=D9 8 x} w'/\Fr w.heap.size [tw,fb] w w':=
 A4H h 8 412 123 x _ _ _ _ h.seg.get_mode h.ok.mode (by decide) (by decide) (by simp only[h.ok.off_mode,h.pre]) hx (λ_ k=>k.put_mode) (h.ok.put_mode _ (K7 8 x (by decide)))
theorem A6Y (h:TB tw b fw pad hdr fb ferr aE B w) (x:Int) (hx:X5 8 x):
  Calls Tryz.prog 144 #[.pointer (some ⟨fb,0,none⟩),.slice (some ⟨tw,131,none⟩) 8 404,.int .i64 x] w λe w'=>e= .returned (.tuple #[])/\TB tw b fw pad hdr fb ferr aE {B with uid:=D9 8 x} w'/\Fr w.heap.size [tw,fb] w w':=
 A4H h 8 404 131 x _ _ _ _ h.seg.get_uid h.ok.uid (by decide) (by decide) (by simp only[h.ok.off_uid,h.pre]) hx (λ_ k=>k.put_uid) (h.ok.put_uid _ (K7 8 x (by decide)))
theorem A6V (h:TB tw b fw pad hdr fb ferr aE B w) (x:Int) (hx:X5 8 x):
  Calls Tryz.prog 144 #[.pointer (some ⟨fb,0,none⟩),.slice (some ⟨tw,139,none⟩) 8 396,.int .i64 x] w λe w'=>e= .returned (.tuple #[])/\TB tw b fw pad hdr fb ferr aE {B with gid:=D9 8 x} w'/\Fr w.heap.size [tw,fb] w w':=
 A4H h 8 396 139 x _ _ _ _ h.seg.get_gid h.ok.gid (by decide) (by decide) (by simp only[h.ok.off_gid,h.pre]) hx (λ_ k=>k.put_gid) (h.ok.put_gid _ (K7 8 x (by decide)))
theorem A5U (h:TB tw b fw pad hdr fb ferr aE B w) (x:Int) (hx:X5 12 x):
  Calls Tryz.prog 144 #[.pointer (some ⟨fb,0,none⟩),.slice (some ⟨tw,147,none⟩) 12 388,.int .i64 x] w λe w'=>e= .returned (.tuple #[])/\TB tw b fw pad hdr fb ferr aE {B with size:=D9 12 x} w'/\Fr w.heap.size [tw,fb] w w':=
 A4H h 12 388 147 x _ _ _ _ h.seg.get_size h.ok.size (by decide) (by decide) (by simp only[h.ok.off_size,h.pre]) hx (λ_ k=>k.put_size) (h.ok.put_size _ (K7 12 x (by decide)))
theorem A4I (h:TB tw b fw pad hdr fb ferr aE B w) (x:Int) (hx:X5 12 x):
  Calls Tryz.prog 144 #[.pointer (some ⟨fb,0,none⟩),.slice (some ⟨tw,159,none⟩) 12 376,.int .i64 x] w λe w'=>e= .returned (.tuple #[])/\TB tw b fw pad hdr fb ferr aE {B with mtime:=D9 12 x} w'/\Fr w.heap.size [tw,fb] w w':=
 A4H h 12 376 159 x _ _ _ _ h.seg.get_mtime h.ok.mtime (by decide) (by decide) (by simp only[h.ok.off_mtime,h.pre]) hx (λ_ k=>k.put_mtime) (h.ok.put_mtime _ (K7 12 x (by decide)))
theorem A6W (h:TB tw b fw pad hdr fb ferr aE B w) (x:Int) (hx:X5 8 x):
  Calls Tryz.prog 144 #[.pointer (some ⟨fb,0,none⟩),.slice (some ⟨tw,352,none⟩) 8 183,.int .i64 x] w λe w'=>e= .returned (.tuple #[])/\TB tw b fw pad hdr fb ferr aE {B with maj:=D9 8 x} w'/\Fr w.heap.size [tw,fb] w w':=
 A4H h 8 183 352 x _ _ _ _ h.seg.get_maj h.ok.maj (by decide) (by decide) (by simp only[h.ok.off_maj,h.pre]) hx (λ_ k=>k.put_maj) (h.ok.put_maj _ (K7 8 x (by decide)))
theorem A6X (h:TB tw b fw pad hdr fb ferr aE B w) (x:Int) (hx:X5 8 x):
  Calls Tryz.prog 144 #[.pointer (some ⟨fb,0,none⟩),.slice (some ⟨tw,360,none⟩) 8 175,.int .i64 x] w λe w'=>e= .returned (.tuple #[])/\TB tw b fw pad hdr fb ferr aE {B with mnr:=D9 8 x} w'/\Fr w.heap.size [tw,fb] w w':=
 A4H h 8 175 360 x _ _ _ _ h.seg.get_mnr h.ok.mnr (by decide) (by decide) (by simp only[h.ok.off_mnr,h.pre]) hx (λ_ k=>k.put_mnr) (h.ok.put_mnr _ (K7 8 x (by decide)))
end
end Go.Proofs.YtkanmkcojlefbaaGreatDoor
