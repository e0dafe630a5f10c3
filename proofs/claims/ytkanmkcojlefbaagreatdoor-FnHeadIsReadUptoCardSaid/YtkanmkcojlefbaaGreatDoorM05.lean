/-
  Part of the proof; holds the texts Par, PRec.
-/
import Derived.Test.YtkanmkcojlefbaaGreatDoorM04
set_option maxHeartbeats 4000000
set_option maxRecDepth 100000
set_option linter.unusedSimpArgs false
set_option linter.unusedVariables false
namespace Go.Proofs.YtkanmkcojlefbaaGreatDoor
open Go.RowKit
theorem bdn {B:Nat} {a w:World} (h:Below B a w) (n:Nat):Below B a (w.drewN n):=⟨h.os,h.tape,h.output,h.size,h.block⟩
def D4 (l:List UInt8):List UInt8:=l.take (l.idxOf 0)
theorem A5q (l:List UInt8) (c:UInt8):Lib.indexByte l c=A1q l c:=by
 have AA:=Lib.indexByte_ge l c;by_cases h:Lib.indexByte l c= -1
 ·rw[h,A6D (Nat.le_refl _) (λj _=>Lib.indexByte_none h j)]
 ·obtain⟨o,ho⟩:∃o:Nat,Lib.indexByte l c=o:=⟨(Lib.indexByte l c).toNat,by omega⟩
  obtain⟨h1,h2⟩:=Lib.indexByte_some ho;rw[ho,A7l h1 h2]
theorem A2v (l:List UInt8):Lib.bytesOf (l.map λb=>(b.toNat:Int))=l:=by
 simp[Lib.bytesOf,Function.comp_def]
theorem W7 {w:World} {g o:Nat} {l:List UInt8} (AA:At w g o (Lib.byteCells l)) (i:Nat) (hi:i<l.length):w.cell? ⟨g,o+i,none⟩=some (.int .u8 (l.getD i 0).toNat):=by
 refine AA i _ ?_;simp[Lib.byteCells,hi]
theorem A9C (w:World) (g o n c:Nat) (l:List UInt8) (AA:At w g o (Lib.byteCells l)) (hn:l.length=n):
  Calls Tryz.prog 212 #[.slice (some ⟨g,o,none⟩) n c,.int .u8 0] w (C4 w (.int .i64 (A1q l 0))):=by
 refine(Tryz.bytes_IndexByte g o n c (l.map λb=>(b.toNat:Int)) 0 w (by simpa using hn) ?_).mono ?_
 ·intro i hi
  refine AA i _ ?_;simp[Lib.byteCells,hn,hi]
 ·rintro e w' ⟨rfl,rfl⟩
  refine⟨?_,rfl⟩;rw[A2v,A5q];rfl
theorem L4 (w:World) (p:Value) (g o n c:Nat) (l:List UInt8) (AA:At w g o (Lib.byteCells l)) (hn:l.length=n) (AH:n<=c):
  Calls Tryz.prog 153 #[p,.slice (some ⟨g,o,none⟩) n c] w (C4 w (str (D4 l))):=by
 have h:=A9C w g o n c l AA hn;by_cases h0: (0:UInt8)∈l
 ·have e:A1q l 0=(l.idxOf 0:Nat):=by rw[A1q,if_pos h0]
  rw[e] at h;have AG:=List.idxOf_lt_length_iff.2 h0
  have AB:=O1 w g o c (l.take (l.idxOf 0)) (by
   have:=AA.take (l.idxOf 0);simpa[Lib.byteCells] using this)
  rw[List.length_take,Nat.min_eq_left (by omega)] at AB;unfold D4;generalize l.idxOf 0=k at*;have AD: (0:Int)<=k:=by omega
  have AE: (k:Int)<=c:=by omega
  clear AA h0 e;go_enter Tryz.func153,Tryz.ntmps153
  go_wp2_with fail
  refine h.mono ?_;rintro e w1 ⟨rfl,rfl⟩;go_wp2_with fail
  go_ret
  exact⟨rfl,rfl⟩
 ·have e:A1q l 0= -1:=by rw[A1q,if_neg h0]
  rw[e] at h;have AB:=O1 w g o c l AA;rw[hn] at AB;have AC:D4 l=l:=by unfold D4;rw[List.idxOf_eq_length h0];exact List.take_length
  rw[AC];clear AA h0 e;go_enter Tryz.func153,Tryz.ntmps153
  go_wp2_with fail
  refine h.mono ?_;rintro e w1 ⟨rfl,rfl⟩;go_wp2_with fail
  go_ret
  exact⟨rfl,rfl⟩
theorem A3q (AA AB:List UInt8) (ht:∀b∈AB,b=0\/b=32) (hb:∀b∈AA,b≠0/\b≠32):Lib.trimRightS (AA++AB) [32,0]=AA:=by
 unfold Lib.trimRightS;rw[List.reverse_append,List.dropWhile_append_of_pos]
 ·cases hr:AA.reverse with
  |nil=>have:=List.reverse_eq_nil_iff.1 hr;rw[this];rfl
  |cons x r=>
   have hx:=hb x (by rw[<-List.mem_reverse,hr];simp);rw[List.dropWhile_cons_of_neg (by simp[hx.1,hx.2]),<-hr,List.reverse_reverse]
 ·intro b hm
  rcases ht b (List.mem_reverse.1 hm) with rfl|rfl<;>rfl
theorem A4S (AA:List UInt8) (hb:∀b∈AA,b≠0/\b≠32):Lib.trimLeftS AA [32,0]=AA:=by
 cases AA with
 |nil=>rfl
 |cons x r=>
  have hx:=hb x (by simp);exact List.dropWhile_cons_of_neg (by simp[hx.1,hx.2])
theorem A9k (w:World) (g o n c:Nat) (AA AB:List UInt8) (AD:At w g o (Lib.byteCells (AA++AB))) (hn: (AA++AB).length=n) (AG:n<=c) (AC:c<=9223372036854775807) (ht:∀b∈AB,b=0\/b=32) (hb:∀b∈AA,b≠0/\b≠32):
  Calls Tryz.prog 275 #[.slice (some ⟨g,o,none⟩) n c,.string ⟨#[32,0]⟩] w λe w'=>e= .returned (if AA=[] then .slice none 0 0 else .slice (some ⟨g,o,none⟩) AA.length c)/\Below w.heap.size w w':=by
 refine(Tryz.bytes_Trim_laid (some ⟨g,o,none⟩) n c ((AA++AB).map λb=>(b.toNat:Int)) ⟨#[32,0]⟩ w (by simpa using hn) AG AC ?_ ?_ (by decide) ?_).mono ?_
 ·intro AH
  refine⟨g,o,rfl,λi hi=> ?_⟩;have:=W7 AD i (by omega);rw[this,List.getD_eq_getElem?_getD,List.getD_eq_getElem?_getD,List.getElem?_map,List.getElem?_eq_getElem (show i< (AA++AB).length by omega)];rfl
 ·intro x hx
  obtain⟨b,-,rfl⟩:=List.mem_map.1 hx;have:=b.toNat_lt;omega
 ·intro j b hj
  have:b∈[(32:UInt8),0]:=List.mem_of_getElem? hj;simp at this;rcases this with rfl|rfl<;>decide
 ·rintro e w' ⟨rfl,AE⟩
  refine⟨?_,AE⟩;rw[A2v];have e1:=A3q AA AB ht hb;have e2:Lib.trimS (AA++AB) [32,0]=AA:=by unfold Lib.trimS;rw[e1,A4S AA hb]
  show Ending.returned (Lib.leftV _ (Lib.trimRightS (AA++AB) [32,0]).length c ((Lib.trimRightS (AA++AB) [32,0]).length- (Lib.trimS (AA++AB) [32,0]).length))=_
  rw[e1,e2,Nat.sub_self];unfold Lib.leftV Lib.fromV;by_cases h0:AA=[]
  ·subst h0;rfl
  ·have:AA.length≠0:=λe=>h0 (List.eq_nil_of_length_eq_zero e)
   rw[if_neg (by omega),if_neg h0];congr 1
   split
   ·rfl
   ·rfl
theorem B0x (l:List UInt8):∀ (AA:Nat),(∀c∈l,48<=c.toNat/\c.toNat<=55)->O6 AA l< (AA+1)*8^l.length:=by
 induction l with
 |nil=>intro AA _;show AA< (AA+1)*1;omega
 |cons c r ih=>
  intro AA hd;have h1:=ih (AA*8+(c.toNat-48)) (λx hx=>hd x (List.mem_cons_of_mem _ hx));have h2:=hd c List.mem_cons_self;have e:O6 AA (c::r)=O6 (AA*8+(c.toNat-48)) r:=rfl;rw[e,List.length_cons,Nat.pow_succ];refine Nat.lt_of_lt_of_le h1 ?_;rw[Nat.mul_comm (8^r.length) 8,<-Nat.mul_assoc];exact Nat.mul_le_mul_right _ (by omega)
theorem A7t (a:List UInt8) (x:UInt8):O6 0 (a++[x])=O6 0 a*8+(x.toNat-48):=by
 rw[A5E];rfl
theorem A7u (l:List UInt8) (k:Nat) (hk:k<l.length):O6 0 (l.take (k+1))=O6 0 (l.take k)*8+((l.getD k 0).toNat-48):=by
 have e:l.getD k 0=l[k]:=by rw[List.getD_eq_getElem?_getD,List.getElem?_eq_getElem hk];rfl
 rw[List.take_succ_eq_append_getElem hk,A7t,e]
theorem A1u (l:List UInt8) (hl:l.length<=12) (hd:∀c∈l,48<=c.toNat/\c.toNat<=55) (k:Nat):O6 0 (l.take k)<68719476736:=by
 have h:=B0x (l.take k) 0 (λc hc=>hd c (List.mem_of_mem_take hc));have h2: (l.take k).length<=12:=by rw[List.length_take];omega
 have h3:8^ (l.take k).length<=8^12:=Nat.pow_le_pow_right (by omega) h2;omega
theorem B5q (l:List UInt8) (AH:l≠ []) (hl:l.length<=12) (hd:∀c∈l,48<=c.toNat/\c.toNat<=55) (w:World):
  Calls Tryz.prog 278 #[str l,.int .i64 8,.int .i64 64] w λe w'=>e= .returned (.tuple #[.int .u64 (O6 0 l),.nilIface])/\w'=Lib.bytesWorld w 5 ⟨l.toArray⟩:=by
 have AI:l.isEmpty=false:=by cases l with
  |nil=>exact absurd rfl AH
  |cons x r=>rfl
 have AG:=Lib.run_convert_string_bytes (P:=Tryz.prog) w 9 35 5 ⟨l.toArray⟩ (u:= .string) Tryz.underlying9 Tryz.underlying35 Tryz.underlying5;have hB:∀j,j<l.length->(Lib.bytesWorld w 5 ⟨l.toArray⟩).cell? ⟨w.heap.size,j,none⟩=some (.int .u8 (l.getD j 0).toNat):=λj hj=>Lib.bytesWorld_cell w 5 ⟨l.toArray⟩ j (by rw[I6];exact hj);obtain⟨W1,AD⟩:∃W1,W1=Lib.bytesWorld w 5 ⟨l.toArray⟩:=⟨_,rfl⟩;rw[<-AD] at AG hB⊢;clear AD;have AL: (⟨l.toArray⟩:ByteArray).size=l.length:=I6 l;rw[AL] at AG
 have AS:IntKind.u64.wrap (IntKind.u64.wrap 18446744073709551616-1)=18446744073709551615:=by
  rw[IntKind.wrap_u64,IntKind.wrap_u64];decide
 have HD:=A0 hd;have HL:=A0 hl;clear hd AH;go_enter Tryz.func278,Tryz.ntmps278
 go_wp2_with fail
 go_loop [12,13,101] (λvu vn vi=>∃ (k:Nat) (a:Int),vu= .bool false/\vn= .int .u64 a/\vi= .int .i64 k/\k<=l.length/\Hid (a=(O6 0 (l.take k):Int)))
  (λ_ _ vi=>l.length- (intOf vi).toNat)
 case atStart=>exact⟨0,0,rfl,rfl,rfl,by omega,rfl⟩
 case round=>
  obtain⟨k,a,rfl,rfl,rfl,hk,hh⟩:=hrel;have ha:=hh.out;have AC:=A1u l HL.out HD.out k;have a0:0<=a:=by omega
  have a1:a<68719476736:=by omega
  by_cases AA:k<l.length
  ·have AB: (k:Int)<l.length:=by omega
   have hc:=hB k AA;have AE:=HD.out (l.getD k 0) (by rw[List.getD_eq_getElem?_getD,List.getElem?_eq_getElem AA];exact List.getElem_mem AA);have HN:=A0 (A7u l k AA);generalize (l.getD k 0)=c at hc AE HN;obtain⟨AO,AP⟩:=AE;have hE:Hid (a*8+((c.toNat:Int)-48)=((O6 0 (l.take (k+1)):Nat):Int)):=A0 (by have:=HN.out;omega);have AM:a<2305843009213693952:=by omega
   have AQ: (c.toNat:Int)-48<8:=by omega
   have AR:0<=(c.toNat:Int)-48:=by omega
   clear hh ha hB AC;go_wp2_with fail
   go_round
   case rel=>exact⟨k+1,a*8+((c.toNat:Int)-48),rfl,by go_num,by go_num,by omega,hE⟩
   case measure=>simp[intOf];omega
  ·have AJ:k=l.length:=by omega
   subst AJ;have AB:¬((l.length:Int)<l.length):=by omega
   clear hB;go_wp2_with fail
   go_ret2
   exact⟨rfl,rfl⟩
theorem pu8 (l:List UInt8) (AA:l≠ []) (hl:l.length<=12) (hd:∀c∈l,48<=c.toNat/\c.toNat<=55) (w:World):
  Calls Tryz.prog 276 #[str l,.int .i64 8,.int .i64 64] w λe w'=>e= .returned (.tuple #[.int .u64 (O6 0 l),.nilIface])/\Below w.heap.size w w':=by
 have h:=B5q l AA hl hd w;go_enter Tryz.func276,Tryz.ntmps276
 go_wp2_with fail
 refine h.mono ?_;rintro e w1 ⟨rfl,rfl⟩;have hb:=Lib.bytesWorld_below w 5 ⟨l.toArray⟩;go_wp2_with fail
 go_ret2
 exact⟨rfl,hb⟩
def P8 (f:List UInt8) (u:Nat):Prop:=∃AA AB,f=AA++AB/\(∀b∈AB,b=0\/b=32)/\(∀c∈AA,48<=c.toNat/\c.toNat<=55)/\AA.length<=12/\O6 0 AA=u
theorem P8.field (n u:Nat) (hn:2<=n) (AA:n<=12) (h:u<8^ (n-1)):P8 (C2 n u) u:=by
 refine⟨Y9 n u,[0],V3 n u,by simp,A0m n u,?_,A4C n u⟩;have:=D2 n u hn h;rw[V3,List.length_append] at this;simp at this;omega
theorem P8.chk (u:Nat) (h:u<8^6):P8 (C2 7 u++[32]) u:=by
 refine⟨Y9 7 u,[0,32],by rw[V3];simp,by simp,A0m 7 u,?_,A4C 7 u⟩;have:=D2 7 u (by omega) h;rw[V3,List.length_append] at this;simp at this;omega
theorem P8.zero (n:Nat):P8 (List.replicate n 0) 0:=⟨[],List.replicate n 0,rfl,λb hb=> .inl (List.eq_of_mem_replicate hb),by simp,by simp,rfl⟩
theorem P8.lt {f:List UInt8} {u:Nat} (h:P8 f u):u<68719476736:=by
 obtain⟨AA,AB,rfl,ht,hb,hl,rfl⟩:=h;have:=A1u AA hl hb AA.length;rwa [List.take_length] at this
theorem P8.low {f:List UInt8} {u:Nat} (h:P8 f u):∀b∈f,b.toNat<128:=by
 obtain⟨AA,AB,rfl,ht,hb,hl,rfl⟩:=h;intro b hm;rcases List.mem_append.1 hm with hm|hm
 ·have:=hb b hm;omega
 ·rcases ht b hm with rfl|rfl<;>decide
theorem A2i (w:World) (p:Value) (g o n c u:Nat) (f:List UInt8) (hf:P8 f u) (AB:At w g o (Lib.byteCells f)) (hn:f.length=n) (AR:n<=c) (AG:c<=9223372036854775807):
  Calls Tryz.prog 237 #[p,.slice (some ⟨g,o,none⟩) n c] w λe w'=>e= .returned (.int .i64 u)/\Below w.heap.size w w':=by
 have hu:=hf.lt;obtain⟨AA,AH,rfl,ht,hb,hl,rfl⟩:=hf;have AE:=A9k w g o n c AA AH AB hn AR AG ht (λb hm=>by have:=hb b hm;constructor<;>rintro rfl<;>revert this<;>decide);by_cases h0:AA=[]
 ·subst h0
  rw[if_pos rfl] at AE;clear AB;go_enter Tryz.func237,Tryz.ntmps237
  go_wp2_with fail
  refine AE.mono ?_;rintro e w1 ⟨rfl,AD⟩;go_wp2_with fail
  go_ret
  exact⟨rfl,AD⟩
 ·rw[if_neg h0] at AE
  have AP:¬((AA.length:Int)=0):=by have:=List.length_pos_iff.2 h0;omega
  have AQ:g<w.heap.size:=block_lt_of_cell (W7 AB 0 (by have:=List.length_pos_iff.2 h0;simp;omega));have AI:=A0 AB;have AL:=A0 (pu8 AA h0 hl hb)
  have AO:D4 AA=AA:=by
   unfold D4;rw[List.idxOf_eq_length (λhm=>by have:=hb 0 hm;revert this;decide),List.take_length]
  generalize O6 0 AA=u at*;clear AB ht hb hl h0;go_enter Tryz.func237,Tryz.ntmps237
  go_wp2_with fail
  refine AE.mono ?_;rintro e w1 ⟨rfl,AD⟩
  have AC:At w1 g o (Lib.byteCells AA):=by
   have:=(AI.out.carry (AD.block g AQ)).take AA.length;simpa[Lib.byteCells] using this
  have AJ:=A0 (L4 w1 p g o AA.length c AA AC rfl (by simp at hn;omega));clear AC;go_wp2_with fail
  refine AJ.out.mono ?_;rintro e w2 ⟨rfl,rfl⟩;rw[AO];go_wp2_with fail
  refine(AL.out _).mono ?_;rintro e w3 ⟨rfl,AM⟩;go_wp2_with fail
  go_ret
  exact⟨rfl,AD.trans (AM.mono AD.size)⟩
end Go.Proofs.YtkanmkcojlefbaaGreatDoor
namespace Go.Proofs.YtkanmkcojlefbaaGreatDoor
open Go.RowKit Go.Lib
theorem B1A (w:World) (l:List UInt8) (hl:l.length<=4611686018427387904) (v:Int) (h:parseIntB 64 l= .ok v):
  Calls Tryz.prog 208 #[str l,.int .i64 10,.int .i64 0] w λe w'=>e= .returned (.tuple #[.int .i64 v,.nilIface])/\Below w.heap.size w w':=by
 refine(Tryz.strconv_ParseInt_10_at0_ok ⟨l.toArray⟩ (by rw[I6];omega) v (by simpa using h) w).mono ?_;rintro e w' ⟨rfl,h|⟨t,h⟩⟩
 ·rw[h];exact⟨rfl,Below.refl _ _⟩
 ·rw[h];exact⟨rfl,bytesWorld_below w 5 t⟩
theorem Y3 (w:World) (l:List UInt8) (hl:l.length<=4611686018427387904) (v:Int) (h:parseIntB 64 l= .ok v):
  Calls Tryz.prog 208 #[str l,.int .i64 10,.int .i64 64] w λe w'=>e= .returned (.tuple #[.int .i64 v,.nilIface])/\Below w.heap.size w w':=by
 refine(Tryz.strconv_ParseInt_10_at64_ok ⟨l.toArray⟩ (by rw[I6];omega) v (by simpa using h) w).mono ?_;rintro e w' ⟨rfl,h|⟨t,h⟩⟩
 ·rw[h];exact⟨rfl,Below.refl _ _⟩
 ·rw[h];exact⟨rfl,bytesWorld_below w 5 t⟩
theorem A7A {fn:Func} {t u v x:Tmp} (h:fn.results=#[.tmp t,.tmp u,.tmp v,.tmp x]) (AA:Array Value) (P:Program) (w:World):
  (results fn AA).run P w= .ok (.tuple #[AA.getD t undef,AA.getD u undef,AA.getD v undef,AA.getD x undef]) w:=by
 simp[results,h,go_sem]
theorem B3A (w:World) (k v rest:List UInt8) (AD:F0 k v=true) (AM: (X6 k v++rest).length<=1099511627776):
  Calls Tryz.prog 206 #[str (X6 k v++rest)] w λe w'=>e= .returned (.tuple #[str k,str v,str rest,.nilIface])/\Below w.heap.size w w':=by
 have AV:=(M7 AD).1;have AE:=(M7 AD).2;have Aa:=List.length_pos_iff.2 AV;have AI:X6 k v++rest=decDigits (K8 k v)++32::(k++61::(v++10::rest)):=by simp[X6]
 have AO:=A7r (K8 k v);have hc:=A9p (X6 k v++rest) 32 w (by omega) (by rw[AI];exact A6u _ _ _);rw[show(X6 k v++rest).take ((X6 k v++rest).idxOf 32)=decDigits (K8 k v) by rw[AI];exact A1o _ _ _ AO,show(X6 k v++rest).drop ((X6 k v++rest).idxOf 32+1)=k++61::(v++10::rest) by rw[AI];exact A4r _ _ _ AO] at hc;have hN:=A2J k v;have AX:=A0y k v (by omega);have Ab: (X6 k v++rest).length=K8 k v+rest.length:=by rw[List.length_append,P7]
 have hp:=A0o (decDigits (K8 k v)) (K8 k v) (X0 _ (by omega)) (by omega) (Y1 _);have AZ: (decDigits (K8 k v)).length=nDigits (K8 k v):=decDigits_length ..;have AR:=λw'=>B1A w' (decDigits (K8 k v)) (by omega) _ hp;have hv:=λw'=>A0c w' k v (by omega) (by omega) AD;obtain⟨m,hm⟩:∃m,m=k.length+v.length+1:=⟨_,rfl⟩;obtain⟨AB,AA⟩:∃AB,AB=k++61::v:=⟨_,rfl⟩;have hcut:=λw'=>A9p AB 61 w' (by rw[AA];simp;omega) (by rw[AA];exact A6u _ _ _);rw[show AB.take (AB.idxOf 61)=k by rw[AA];exact A1o _ _ _ AE,show AB.drop (AB.idxOf 61+1)=v by rw[AA];exact A4r _ _ _ AE] at hcut;obtain⟨r0,AP⟩:∃r0,r0=k++61::(v++10::rest):=⟨_,rfl⟩;have AC:r0=AB++([10]++rest):=by rw[AP,AA];simp
 have AH:AB.length=m:=by rw[AA,hm];simp;omega
 have AQ:r0.length=m+1+rest.length:=by rw[AC,List.length_append,AH];simp;omega
 have Am: (⟨r0.toArray⟩:ByteArray).extract 0 m=⟨AB.toArray⟩:=by
  rw[L3,List.drop_zero,Nat.sub_zero,AC,<-AH,List.take_left]
 have An: (⟨r0.toArray⟩:ByteArray).extract m (m+1)=⟨#[10]⟩:=by
  rw[L3,AC,<-AH,List.drop_left];simp
 have Ao: (⟨r0.toArray⟩:ByteArray).extract (m+1) r0.length=⟨rest.toArray⟩:=by
  rw[L3,AC,<-AH,<-List.drop_drop,List.drop_left]
  have e: (([10]++rest:List UInt8).drop 1).take ((AB++([10]++rest)).length- (AB.length+1))=rest:=by
   rw[show([10]++rest:List UInt8).drop 1=rest from rfl];exact List.take_of_length_le (by rw[List.length_append,List.length_append];simp;omega)
  rw[e]
 have Ae:IntKind.i64.wrap ((K8 k v:Int)- ((decDigits (K8 k v)).length+1))=((m+1:Nat):Int):=by rw[IntWalk.i64_in _ (by omega)];omega
 have Af:IntKind.i64.wrap ((m:Int)+1-1)=(m:Int):=by rw[IntWalk.i64_in _ (by omega)];omega
 have Ag:IntKind.i64.wrap (m:Int)=(m:Int):=by rw[IntWalk.i64_in _ (by omega)]
 have Ah: (m:Int)<=r0.length:=by omega
 have Ai: (m:Int)+1<=r0.length:=by omega
 have Aj: (m:Int)<=(m:Int)+1:=by omega
 have Ak: (0:Int)< (m:Int)+1:=by omega
 have Al:¬((X6 k v++rest).length:Int)<K8 k v:=by omega
 have Ad:¬(K8 k v:Int)<5:=by omega
 have Ac: ((decDigits (K8 k v)).length:Int)<100:=by have:=I4 (K8 k v) 20 (by omega);omega
 rw[<-AP] at hc;generalize X6 k v++rest=s at*;generalize decDigits (K8 k v)=ds at*;generalize K8 k v=N at*;clear AA AP AC hN AX Ab hp AZ AV AE Aa AI AO AD AM AH AQ hm;have HC:=A0 hc;have AW:=A0 AR;have HV:=A0 hv;have AJ:=A0 hcut;clear hc AR hv hcut;go_enter Tryz.func206,Tryz.ntmps206
 go_wp2_with fail
 refine HC.out.mono ?_;rintro e w1 ⟨rfl,AT⟩;have AL:Below w.heap.size w w1:=by obtain⟨q,rfl⟩:=AT;exact bdn (Below.refl _ w) q
 clear AT;go_wp2_with fail
 refine(AW.out w1).mono ?_;rintro e w2 ⟨rfl,AS⟩;have AG:=AL.trans (AS.mono AL.size);clear AL AS;go_wp2_with fail
 go_quiet (fail)
 go_wp2_with fail
 refine(AJ.out _).mono ?_;rintro e w3 ⟨rfl,AU⟩;have AY:Below w.heap.size w w3:=by obtain⟨q,rfl⟩:=AU;exact bdn (bdn AG _) q
 clear AU AG;go_wp2_with fail
 refine(HV.out _).mono ?_;rintro e w4 ⟨rfl,rfl⟩;go_wp2_with fail
 exact bodyPost_ret (A7A rfl _ _ _) rfl ⟨rfl,AY⟩
end Go.Proofs.YtkanmkcojlefbaaGreatDoor
