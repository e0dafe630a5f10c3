/-
  Part of the proof; holds the texts Nm2, RHsG, Agg, AllowB, AllowCF.
-/
import Derived.Test.YtkanmkcojlefbaaGreatDoorM15
import Derived.Laws.DeepNot64
set_option maxHeartbeats 8000000
set_option maxRecDepth 100000
set_option linter.unusedSimpArgs false
set_option linter.unusedVariables false
namespace Go.Proofs.YtkanmkcojlefbaaGreatDoor
open Go.RowKit
theorem B1w (k:Nat) (x:Int):∀i,i<k->(bb k x).getD i 0=UInt8.ofNat ((x/256^ (k-1-i))% 256).toNat:=by
 induction k with
 |zero=>intro i hi;omega
 |succ k ih=>
  intro i hi;cases i with
  |zero=>simp[bb]
  |succ i=>
   have:=ih i (by omega);rw[bb,List.getD_cons_succ,this,show k+1-1- (i+1)=k-1-i by omega]
def mag (x:Int):Nat:=if x<0 then(-1-x).toNat else x.toNat
theorem B6S (v:Nat) (h:v<256): (255-v)^^^255=v:=by
 have:∀k:Fin 256,(255-k.val)^^^255=k.val:=by decide
 exact this ⟨v,h⟩
theorem B0C (x:Int) (d:Nat) (hx:0<=x): ((x/ (d:Int))% 256).toNat=mag x/d% 256:=by
 have e:mag x=x.toNat:=by unfold mag;rw[if_neg (by omega)]
 rw[e];obtain⟨m,rfl⟩:=Int.eq_ofNat_of_zero_le hx;have e1: ((m:Int)/ (d:Int))=((m/d:Nat):Int):=(Int.natCast_ediv m d).symm;rw[e1,Int.toNat_natCast];omega
theorem B0B (x:Int) (d:Nat) (hd:0<d) (hx:x<0): ((x/ (d:Int))% 256).toNat=255-mag x/d% 256:=by
 have e:mag x=(-1-x).toNat:=by unfold mag;rw[if_pos hx]
 rw[e];obtain⟨m,hm⟩:=Int.eq_ofNat_of_zero_le (show 0<=-1-x by omega);have AA:x= -1- (m:Int):=by omega
 rw[hm,Int.toNat_natCast];have h1: (d:Int)*((m/d:Nat):Int)+((m% d:Nat):Int)=m:=by exact_mod_cast Nat.div_add_mod m d
 have h2:m% d<d:=Nat.mod_lt m hd
 have h3:x/ (d:Int)= -1- ((m/d:Nat):Int):=by
  refine((Int.ediv_emod_unique (r:=(d:Int)-1- ((m% d:Nat):Int)) (by omega)).2 ⟨?_,by omega,by omega⟩).1;rw[Int.mul_sub,AA];omega
 rw[h3];omega
theorem B4z (X v:Nat) (hX:X<72057594037927936) (hv:v<256):bits .or .u64 ((X:Int)*256) (v:Int)=((X*256+v:Nat):Int):=by
 have h:X*256+v=X*256|||v:=by simpa[Nat.shiftLeft_eq] using Nat.shiftLeft_add_eq_or_of_lt (show v<2^8 by omega) X
 have:=u64_or_nat (X*256) v (by omega) (by omega);rw[h];simpa using this
theorem A6n (n:Nat) (x:Int) (i:Nat) (h0:0<i) (hi:i<n): (L0 n x).getD i 0=(bb n x).getD i 0:=by
 obtain⟨k,rfl⟩:∃k,n=k+1:=⟨n-1,by omega⟩;obtain⟨j,rfl⟩:∃j,i=j+1:=⟨i-1,by omega⟩;simp[L0,bb]
theorem A6o (n:Nat) (x:Int): (L0 n x).length=n:=by
 unfold L0;cases n with
 |zero=>rfl
 |succ k=>simp[bb,A3W]
theorem A4s (n:Nat) (x:Int) (hn:n=8\/n=12) (hb:M2 n x=true) (h0: -9223372036854775808<=x) (h1:x<=9223372036854775807): ((L0 n x).getD 0 0).toNat=(if x<0 then 255 else 128)/\mag x/256^ (n-1)=0/\mag x/256<72057594037927936/\mag x<9223372036854775808:=by
 have hm:mag x<9223372036854775808/\(n=8->mag x<72057594037927936):=by
  have:n=8->-72057594037927936<=x/\x<72057594037927936:=λe=>by subst e;simpa[M2] using hb
  unfold mag;split<;>omega
 have hd:mag x/256^ (n-1)=0:=by
  rcases hn with rfl|rfl
  ·have:=hm.2 rfl
   exact Nat.div_eq_of_lt this
  ·refine Nat.div_eq_of_lt (Nat.lt_trans hm.1 (by decide))
 refine⟨?_,hd,by omega,hm.1⟩;obtain⟨k,rfl⟩:∃k,n=k+1:=⟨n-1,by omega⟩;have e: ((L0 (k+1) x).getD 0 0)=(bb (k+1) x).getD 0 0|||128:=by simp[L0,bb]
 rw[e,B1w _ _ 0 (by omega),Nat.sub_zero];have hc: (256:Int)^ (k+1-1)=((256^ (k+1-1):Nat):Int):=by simp
 rw[hc];by_cases hx:x<0
 ·rw[B0B x _ (Nat.pow_pos (by decide)) hx,hd,if_pos hx];rfl
 ·rw[B0C x _ (by omega),hd,if_neg hx];rfl
theorem B3t (n:Nat) (x:Int) (i:Nat) (h0:0<i) (hi:i<n):bits .xor .u8 (((L0 n x).getD i 0).toNat:Int) (if x<0 then 255 else 0)=((mag x/256^ (n-1-i)% 256:Nat):Int):=by
 rw[A6n n x i h0 hi,B1w n x i hi];have hc: (256:Int)^ (n-1-i)=((256^ (n-1-i):Nat):Int):=by simp
 rw[hc];by_cases hx:x<0
 ·have hv:mag x/256^ (n-1-i)% 256<256:=Nat.mod_lt _ (by decide)
  rw[B0B x _ (Nat.pow_pos (by decide)) hx,if_pos hx,UInt8.toNat_ofNat',Nat.mod_eq_of_lt (by omega)];have:=u8_xor_nat (255-mag x/256^ (n-1-i)% 256) 255 (by omega) (by decide);rw[B6S _ hv] at this;exact this
 ·have hv:mag x/256^ (n-1-i)% 256<256:=Nat.mod_lt _ (by decide)
  rw[B0C x _ (by omega),if_neg hx,UInt8.toNat_ofNat',Nat.mod_eq_of_lt (by omega)];have:=u8_xor_nat (mag x/256^ (n-1-i)% 256) 0 hv (by decide);rw[Nat.xor_zero] at this;exact this
theorem B2l (m k:Nat):m/256^k=m/256^ (k+1)*256+m/256^k% 256:=by
 rw[Nat.pow_succ,<-Nat.div_div_eq_div_mul];omega
theorem A7w (w:World) (p:Value) (g o n c:Nat) (x:Int) (hn:n=8\/n=12) (hb:M2 n x=true) (AS: -9223372036854775808<=x) (AT:x<=9223372036854775807) (AJ:At w g o (Lib.byteCells (L0 n x))) (AW:n<=c) (AP:c<=9223372036854775807):
  Calls Tryz.prog 199 #[p,.slice (some ⟨g,o,none⟩) n c] w (C4 w (.int .i64 x)):=by
 obtain⟨f1,f2,f3,f4⟩:=A4s n x hn hb AS AT;have hl:=A6o n x;have AB:=W7 AJ 0 (by omega);rw[f1,Nat.add_zero] at AB;have AV: (0:Int)<n:=by omega
 have AO:=A0 (λi (h:i<n)=>W7 AJ i (by omega));have HB:=A0 (λi h0 hi=>B3t n x i h0 hi);have HM:=A0 (B2l (mag x));have F2:=A0 f2;have F3:=A0 f3
 have AD:x=if x<0 then-1- (mag x:Int) else(mag x:Int):=by
  unfold mag;split<;>omega
 clear AJ f1 f2 f3 hl hb;by_cases hx:x<0
 ·rw[if_pos hx] at AB AD
  have AG:Hid (∀i,0<i->i<n->bits .xor .u8 (((L0 n x).getD i 0).toNat:Int) 255=((mag x/256^ (n-1-i)% 256:Nat):Int)):=A0 (λi h0 hi=>by have:=HB.out i h0 hi;rwa [if_pos hx] at this);have a1:bits .and .u8 255 128=128:=by decide
  have a2:bits .and .u8 255 64=64:=by decide
  have a3:bits .xor .u8 255 255=0:=by decide
  have a4:bits .and .u8 0 127=0:=by decide
  have AH:=A0 AD;have AL:w.cell? ⟨g,o,none⟩=some (.int .u8 255):=AB;clear HB AD AB;generalize mag x=m at*;go_enter Tryz.func199,Tryz.ntmps199
  go_wp2_with fail
  go_loop [6,7,8,26] (λs6 s7 s8 s26=>∃i:Nat,i<=n/\s6= .int .u64 ((m/256^ (n-i):Nat):Int)/\s26= .int .i64 i) (λ_ _ _ s26=>n- (intOf s26).toNat)
  case atStart=>exact⟨0,zW _,by
   have:m/256^ (n-0)=0:=by
    have e:=HM.out (n-1);rw[F2.out,show n-1+1=n-0 by omega] at e;omega
   rw[this];rfl,rfl⟩
  case round=>
   obtain⟨i,hi,rfl,rfl⟩:=hrel;by_cases AE:i<n
   ·have AC: (i:Int)<n:=by omega
    have AA:=HM.out (n-1-i);rw[show n-1-i+1=n-i by omega] at AA
    have hX:m/256^ (n-i)<72057594037927936:=by
     have:m/256^ (n-i)<=m/256^1:=Nat.div_le_div_left (Nat.pow_le_pow_right (by decide) (by omega)) (by decide);have:=F3.out;omega
    have hV:m/256^ (n-1-i)% 256<256:=Nat.mod_lt _ (by decide);by_cases h0:i=0
    ·subst h0
     have e1:m/256^ (n-0)=0:=by
      have e:=F2.out;rw[show n-1-0=n-1 by omega,e] at AA;omega
     have e2:m/256^ (n- (0+1))=0:=by rw[show n- (0+1)=n-1 by omega];exact F2.out
     rw[e1];have E2:=A0 e2;have o0:bits .or .u64 0 0=0:=by decide
     clear AA hX hV e1 e2;go_wp2_with fail
     go_round
     case rel=>exact⟨0+1,by omega,by rw[E2.out];rfl,by go_num⟩
     case measure=>simp[intOf];omega
    ·have AM:¬(i:Int)=0:=by omega
     have hc:=AO.out i AE;have AU:=AG.out i (by omega) AE;have AI:Hid (m/256^ (n- (i+1))=m/256^ (n-i)*256+m/256^ (n-1-i)% 256):=A0 (by rw[show n- (i+1)=n-1-i by omega];exact AA);have AR:=B4z _ _ hX hV;have hk: ((i:Int)==0)=false:=by simpa using AM
     clear AA h0;generalize m/256^ (n-i)=X at*;generalize m/256^ (n-1-i)% 256=V at*;generalize ((L0 n x).getD i 0).toNat=C at*;have hq: (X:Int)/72057594037927936=0:=by omega
     have hw:IntKind.u64.wrap ((X:Int)*256)=(X:Int)*256:=by rw[IntWalk.u64_in _ (by omega)]
     go_wp2_with fail
     go_round
     case rel=>exact⟨i+1,by omega,by rw[AI.out];push_cast;rfl,by go_num⟩
     case measure=>simp[intOf];omega
   ·obtain rfl:i=n:=by omega
    have AC:¬(i:Int)<i:=by omega
    have e1:m/256^ (i-i)=m:=by rw[Nat.sub_self,Nat.pow_zero,Nat.div_one]
    rw[e1];have hq: (m:Int)/9223372036854775808=0:=by omega
    have hw:IntKind.i64.wrap (m:Int)=m:=by rw[zQ _ (by omega)]
    clear e1;have AQ:=i64_not m f4;go_wp2_with fail
    go_ret
    refine⟨?_,rfl⟩;rw[AH.out];rfl
 ·rw[if_neg hx] at AB AD
  have AG:Hid (∀i,0<i->i<n->bits .xor .u8 (((L0 n x).getD i 0).toNat:Int) 0=((mag x/256^ (n-1-i)% 256:Nat):Int)):=A0 (λi h0 hi=>by have:=HB.out i h0 hi;rwa [if_neg hx] at this);have a1:bits .and .u8 128 128=128:=by decide
  have a2:bits .and .u8 128 64=0:=by decide
  have a3:bits .xor .u8 128 0=128:=by decide
  have a4:bits .and .u8 128 127=0:=by decide
  have AH:=A0 AD;have AL:w.cell? ⟨g,o,none⟩=some (.int .u8 128):=AB;clear HB AD AB;generalize mag x=m at*;go_enter Tryz.func199,Tryz.ntmps199
  go_wp2_with fail
  go_loop [6,7,8,26] (λs6 s7 s8 s26=>∃i:Nat,i<=n/\s6= .int .u64 ((m/256^ (n-i):Nat):Int)/\s26= .int .i64 i) (λ_ _ _ s26=>n- (intOf s26).toNat)
  case atStart=>exact⟨0,zW _,by
   have:m/256^ (n-0)=0:=by
    have e:=HM.out (n-1);rw[F2.out,show n-1+1=n-0 by omega] at e;omega
   rw[this];rfl,rfl⟩
  case round=>
   obtain⟨i,hi,rfl,rfl⟩:=hrel;by_cases AE:i<n
   ·have AC: (i:Int)<n:=by omega
    have AA:=HM.out (n-1-i);rw[show n-1-i+1=n-i by omega] at AA
    have hX:m/256^ (n-i)<72057594037927936:=by
     have:m/256^ (n-i)<=m/256^1:=Nat.div_le_div_left (Nat.pow_le_pow_right (by decide) (by omega)) (by decide);have:=F3.out;omega
    have hV:m/256^ (n-1-i)% 256<256:=Nat.mod_lt _ (by decide);by_cases h0:i=0
    ·subst h0
     have e1:m/256^ (n-0)=0:=by
      have e:=F2.out;rw[show n-1-0=n-1 by omega,e] at AA;omega
     have e2:m/256^ (n- (0+1))=0:=by rw[show n- (0+1)=n-1 by omega];exact F2.out
     rw[e1];have E2:=A0 e2;have o0:bits .or .u64 0 0=0:=by decide
     clear AA hX hV e1 e2;go_wp2_with fail
     go_round
     case rel=>exact⟨0+1,by omega,by rw[E2.out];rfl,by go_num⟩
     case measure=>simp[intOf];omega
    ·have AM:¬(i:Int)=0:=by omega
     have hc:=AO.out i AE;have AU:=AG.out i (by omega) AE;have AI:Hid (m/256^ (n- (i+1))=m/256^ (n-i)*256+m/256^ (n-1-i)% 256):=A0 (by rw[show n- (i+1)=n-1-i by omega];exact AA);have AR:=B4z _ _ hX hV;have hk: ((i:Int)==0)=false:=by simpa using AM
     clear AA h0;generalize m/256^ (n-i)=X at*;generalize m/256^ (n-1-i)% 256=V at*;generalize ((L0 n x).getD i 0).toNat=C at*;have hq: (X:Int)/72057594037927936=0:=by omega
     have hw:IntKind.u64.wrap ((X:Int)*256)=(X:Int)*256:=by rw[IntWalk.u64_in _ (by omega)]
     go_wp2_with fail
     go_round
     case rel=>exact⟨i+1,by omega,by rw[AI.out];push_cast;rfl,by go_num⟩
     case measure=>simp[intOf];omega
   ·obtain rfl:i=n:=by omega
    have AC:¬(i:Int)<i:=by omega
    have e1:m/256^ (i-i)=m:=by rw[Nat.sub_self,Nat.pow_zero,Nat.div_one]
    rw[e1];have hq: (m:Int)/9223372036854775808=0:=by omega
    have hw:IntKind.i64.wrap (m:Int)=m:=by rw[zQ _ (by omega)]
    clear e1;have AQ:=i64_not m f4;go_wp2_with fail
    go_ret
    refine⟨?_,rfl⟩;rw[AH.out];rfl
structure RdB8 (B:C1):Prop where
 ok:B.Ok
 magic:B.magic=[117,115,116,97,114,32]
 ver:B.ver=[32,0]
 chk:B.chk=C2 7 (X8 B.bytes 512)++[32]
 end4:B.rest.drop 163=[0,0,0,0]
theorem A8u (w:World) (g o:Nat) (T:TypeId) (AB post:List Value) (B:C1) (hR:RdB8 B) (hs:E4 w g T AB B.bytes post) (ho:AB.length=o):
  Calls Tryz.prog 198 #[.pointer (some ⟨g,o,none⟩)] w λe w'=>e= .returned (.int .i64 8)/\Below w.heap.size w w':=by
 have AC:At w g o (Lib.byteCells B.bytes):=At.of_heap hs (λj v hj=>by
  rw[List.getElem?_toArray,<-ho,QG,zT (Nat.le_add_right _ _),Nat.add_sub_cancel_left,zX (zM.1 hj).1];exact hj)
 have hg:g<w.heap.size:=A8 hs;have v7:=A0 A5Z;have vu:=A0 Z0;have vs:=A0 B3W;have vc:=A0 B0M;have vm:=A0 A9l;have vv:=A0 A5a;have vt:=A0 A8P;have HO:=A0 (A2i (w.alloc (.cells #[.nilIface] 231)) (.pointer (some ⟨w.heap.size,0,none⟩)) g (o+148) 8 364 (X8 B.bytes 512) B.chk (by rw[hR.chk];exact P8.chk _ (A3Z _)) ((At.get_chk hR.ok AC).carry (zO w _ g hg)) hR.ok.chk (by omega) (by omega));have AI:=A0 AC;have HR:=A0 hR;have HS:=A0 hs;have AL:=A0 ho;clear AC hR hs ho;go_enter Tryz.func198,Tryz.ntmps198
 go_wp2_with fail
 refine(v7.out _ _).mono ?_;rintro e w1 ⟨rfl,rfl⟩;go_wp2_with fail
 refine(vc.out _ _ _).mono ?_;rintro e w1 ⟨rfl,rfl⟩;go_wp2_with fail
 refine HO.out.mono ?_;rintro e w1 ⟨rfl,AD⟩;have hb:Below w.heap.size w w1:=((zD _ w).alloc (zB _) _).trans (AD.mono (by simp))
 have AH:w1.cell? ⟨w.heap.size,0,none⟩=some .nilIface:=by
  rw[zA ((AD.block w.heap.size (by simp)).trans (zI w (.cells #[.nilIface] 231)))];rfl
 have AJ:=A0 hb;have AM:Hid (E4 w1 g T AB B.bytes post):=A0 ((hb.block g hg).trans HS.out);have HC:=A0 (A2w w1 g T AB B.bytes post AM.out HR.out.ok.len);rw[AL.out] at HC;clear hb AD HO;go_wp2_with fail
 refine HC.out.mono ?_;rintro e w2 ⟨⟨z,rfl⟩,AE⟩;have AO:w2.cell? ⟨w.heap.size,0,none⟩=some .nilIface:=by obtain⟨nd,rfl⟩:=AE;exact AH
 have AG:Hid (Below w.heap.size w w2):=by obtain⟨nd,rfl⟩:=AE;exact bdn AJ.out nd
 have AA:=(AI.out.carry (AG.out.block g hg));have cm:=O1 w2 g (o+257) 255 B.magic (At.get_magic HR.out.ok AA);have cv:=O1 w2 g (o+263) 249 B.ver (At.get_ver HR.out.ok AA);have ct:=O1 w2 g (o+508) 4 (B.rest.drop 163) (At.get_trailer HR.out.ok AA);rw[HR.out.magic] at cm;rw[HR.out.ver] at cv;rw[HR.out.end4] at ct;simp only[List.length_cons,List.length_nil] at cm cv ct;clear AA AE AH HC;go_wp2_with (first|(go_at_call 107;refine(vu.out _ _).mono ?_;rintro e wx ⟨rfl,rfl⟩)|(go_at_call 178;refine(vs.out _ _).mono ?_;rintro e wx ⟨rfl,rfl⟩)|(go_at_call 182;refine(vm.out _ _ _).mono ?_;rintro e wx ⟨rfl,rfl⟩)|(go_at_call 183;refine(vv.out _ _ _).mono ?_;rintro e wx ⟨rfl,rfl⟩)|(go_at_call 181;refine(vt.out _ _ _).mono ?_;rintro e wx ⟨rfl,rfl⟩))
 go_ret
 exact⟨rfl,AG.out⟩
def A1i (n:Nat) (f:List UInt8) (x:Int):Prop:=(0<=x/\P8 f x.toNat)\/(f=L0 n x/\(n=8\/n=12)/\M2 n x=true/\-9223372036854775808<=x/\x<=9223372036854775807)
theorem A1i.num {n:Nat} {x:Int} (hn:n=8\/n=12) (hx: (B8 n x=true\/M2 n x=true)/\-9223372036854775808<=x/\x<=9223372036854775807):A1i n (D9 n x) x:=by
 unfold D9;by_cases h:B8 n x=true
 ·rw[if_pos h]
  have h2:=A1U h;simp only[B8,decide_eq_true_eq] at h;exact .inl ⟨h.1,P8.field n x.toNat (by omega) (by omega) h2⟩
 ·rw[if_neg h]
  exact .inr ⟨rfl,hn,hx.1.resolve_left h,hx.2.1,hx.2.2⟩
theorem U5 (w:World) (p:Value) (g o n c:Nat) (x:Int) (f:List UInt8) (hf:A1i n f x) (AB:At w g o (Lib.byteCells f)) (hn:f.length=n) (AD:0<n) (AC:n<=c) (AA:c<=9223372036854775807):
  Calls Tryz.prog 199 #[p,.slice (some ⟨g,o,none⟩) n c] w λe w'=>e= .returned (.int .i64 x)/\Below w.heap.size w w':=by
 rcases hf with ⟨h0,hf⟩|⟨rfl,h1,h2,h3,h4⟩
 ·have e: ((x.toNat:Nat):Int)=x:=by omega
  have:=N7 w p g o n c x.toNat f hf AB hn AD AC AA;rwa [e] at this
 ·refine(A7w w p g o n c x h1 h2 h3 h4 AB AC AA).mono ?_
  rintro e w' ⟨rfl,rfl⟩;exact⟨rfl,zD _ _⟩
structure RdW where
 mode:Int
 uid:Int
 gid:Int
 size:Int
 mtime:Int
 maj:Int
 mnr:Int
 ax:Int
 cx:Int
def B3q (f:List UInt8) (x:Int):Prop:=f.length=12/\((f.getD 0 0=0/\x=0)\/(f.getD 0 0≠0/\A1i 12 f (x-62135596800)/\-100000000000000000<=x-62135596800/\x-62135596800<=100000000000000000))
structure RdG (B:C1) (V:RdW):Prop extends RdB8 B where
 mode:A1i 8 B.mode V.mode
 uid:A1i 8 B.uid V.uid
 gid:A1i 8 B.gid V.gid
 size:A1i 12 B.size V.size
 mtime:A1i 12 B.mtime V.mtime
 maj:A1i 8 B.maj V.maj
 mnr:A1i 8 B.mnr V.mnr
 sec: -100000000000000000<=V.mtime/\V.mtime<=100000000000000000
 at':B3q (B.rest.take 12) V.ax
 ct':B3q ((B.rest.drop 12).take 12) V.cx
def A2l (B:C1) (V:RdW):Hd:= {Hd.nil with typ:=J9 B,name:=D4 B.name,link:=D4 B.link,size:=V.size,mode:=V.mode,uid:=V.uid,gid:=V.gid,mx:=V.mtime+62135596800}
def rdG (B:C1) (V:RdW):Hd:= {A2l B V with user:=D4 B.user,group:=D4 B.group,maj:=V.maj,mnr:=V.mnr,fmt:=8,ax:=V.ax,cx:=V.cx}
theorem At.get_at {w:World} {g o:Nat} {B:C1} (AA:B.Ok) (h:At w g o (Lib.byteCells B.bytes)):At w g (o+345) (Lib.byteCells (B.rest.take 12)):=by
 have:=(At.get_rest AA h).take 12;simpa[Lib.byteCells] using this
theorem At.get_ct {w:World} {g o:Nat} {B:C1} (AA:B.Ok) (h:At w g o (Lib.byteCells B.bytes)):At w g (o+357) (Lib.byteCells ((B.rest.drop 12).take 12)):=by
 have:=((At.get_rest AA h).drop 12).take 12;simpa[Lib.byteCells,Nat.add_assoc] using this
section
variable {ops:Array Oper} {rest:List Oper} {o:Oper} {a:Act} {w:World} {Q:Exit->Act->World->Prop}
theorem D3 (hg:o.guard=none) (t:TypeId) (x:Operand) (AB:o.op=Op.load t x) (p:Addr) (hx:a.eval x= .pointer (some p)) (v:Value) (AA: (loadVar t p).run Tryz.prog w= .ok v w)
  (h:wpList Tryz.prog ops Q rest (a.put o.dst v) w):wpList Tryz.prog ops Q (o::rest) a w:=
 wpList_plain hg λ_ hK=>by
  unfold Oper.wp execOp;simp only[AB,hx,Instr.loadAt,Instr.sureAddr,Sem.run_bind,Sem.run_pure,Result.andThen_ok,AA];exact hK _ _ h
theorem E6 (hg:o.guard=none) (t:TypeId) (x y:Operand) (AB:o.op=Op.store t x y) (p:Addr) (hx:a.eval x= .pointer (some p)) (v:Value) (hy:a.eval y=v) (w':World) (AA: (storeVar t p v).run Tryz.prog w= .ok () w')
  (h:wpList Tryz.prog ops Q rest (a.put o.dst undef) w'):wpList Tryz.prog ops Q (o::rest) a w:=
 wpList_plain hg λ_ hK=>by
  unfold Oper.wp execOp;simp only[AB,hx,hy,Instr.storeAt,Instr.sureAddr,Sem.run_bind,Sem.run_pure,Result.andThen_ok,AA];exact hK _ _ h
end
def B1s:TypeDesc->Bool
 | .struct _=>true
 | .array _ _=>true
 |_=>false
theorem A2A (w:World) (g o:Nat) (ty:TypeId) (cs:Array Value) (AB:At w g o cs.toList) (d:TypeDesc)
  (hu:Tryz.prog.underlying ty=some d) (hd:B1s d=true) (hi: (Tryz.prog.info? ty).map (·.size)=some cs.size):
  (loadVar ty ⟨g,o,none⟩).run Tryz.prog w= .ok (.agg cs) w:=by
 have hl: (loadCells ⟨g,o,none⟩ cs.toList.length).run Tryz.prog w= .ok cs.toList.toArray w:=
  run_loadCells_list (P:=Tryz.prog) w ⟨g,o,none⟩ cs.toList AB.src
 cases hq:Tryz.prog.info? ty with
 |none=>simp[hq] at hi
 |some i=>
  have hs:i.size=cs.size:=by simpa[hq] using hi
  have AA: (isAgg ty).run Tryz.prog w= .ok true w:=by
   unfold isAgg;rw[Sem.run_bind,run_underlying hu w];cases d<;>simp_all[B1s]
  simp only[Array.length_toList,Array.toArray_toList] at hl;simp[loadVar,Sem.run_bind,AA,sizeOf,typeInfo,hq,hs,hl]
theorem A1V (w:World) (g o:Nat) (t ty:TypeId) (cur cells:Array Value) (hg:w.heap[g]?=some (.cells cur t (0,0))) (hi: (Tryz.prog.info? ty).map (·.size)=some cells.size)
  (ho:o+cells.size<=cur.size) (h1:∀v∈cells.toList,v.oneCell'=true):
  (storeVar ty ⟨g,o,none⟩ (.agg cells)).run Tryz.prog w= .ok () (w.setRow g (cur.toList.take o++cells.toList++cur.toList.drop (o+cells.size)).toArray):=by
 have:=run_storeCells_at Tryz.prog g o t cells.toList 0 cur w hg (by simp;omega) h1;simp only[Nat.add_zero,Array.length_toList] at this;cases hq:Tryz.prog.info? ty with
 |none=>simp[hq] at hi
 |some i=>
  have hs:cells.size=i.size:=by simp[hq] at hi;omega
  simp[storeVar,sizeOf,typeInfo,hq,Value.cells,hs] at this⊢;exact this
theorem B6K:∃d,Tryz.prog.underlying 130=some d/\B1s d=true:=⟨_,Tryz.underlying130,rfl⟩
theorem B0G: (Tryz.prog.info? 130).map (·.size)=some 20:=by kernel_rfl
theorem B0E (w:World) (g o:Nat) (H:Hd) (AA:At w g o H.cells): (loadVar 130 ⟨g,o,none⟩).run Tryz.prog w= .ok (.agg H.cells.toArray) w:=by
 obtain⟨d,h1,h2⟩:=B6K;exact A2A w g o 130 H.cells.toArray (by simpa using AA) d h1 h2 B0G
theorem B1e {w:World} {tw b fw:Nat} {AD:Int} {AA AB:List Value} {AC:Value} (h:TW tw b fw AD AA AB AC w):At w tw 3 AA:=λj v hj=>A0S h j v hj
theorem A9m (wv p AA:Value) (AD AE AB:List Value) (AC:Value) (h:AD.length=20) (h2:AE.length=20):
  ((J3 wv p AA AD AB AC).toList.take 3++AE++(J3 wv p AA AD AB AC).toList.drop (3+20)).toArray=J3 wv p AA AE AB AC:=by
 have e: (J3 wv p AA AD AB AC).toList=wv::p::AA::(AD++(AB++[AC])):=by simp[J3]
 rw[e]
 have e2: (wv::p::AA::(AD++(AB++[AC]))).drop (3+20)=AB++[AC]:=by
  show(AD++(AB++[AC])).drop 20=_
  rw[<-h,List.drop_left]
 rw[e2];simp[J3]
theorem B5V (H:Hd) (h1:H.xattr.oneCell'=true) (h2:H.recs.oneCell'=true):∀v∈H.cells,v.oneCell'=true:=by
 intro v hv;simp only[Hd.cells,List.mem_cons,List.mem_nil_iff,or_false] at hv;rcases hv with rfl|rfl|rfl|rfl|rfl|rfl|rfl|rfl|rfl|rfl|rfl|rfl|rfl|rfl|rfl|rfl|rfl|rfl|rfl|rfl<;>first|exact h1|exact h2|rfl
theorem B2Q {w:World} {tw b fw:Nat} {AC:Int} {AD AA:List Value} {AB:Value} (h:TW tw b fw AC AD AA AB w) (H:Hd) (h1:H.xattr.oneCell'=true) (h2:H.recs.oneCell'=true):
  ∃w',(storeVar 130 ⟨tw,3,none⟩ (.agg H.cells.toArray)).run Tryz.prog w= .ok () w'/\TW tw b fw AC H.cells AA AB w'/\Fr w.heap.size [tw] w w':=by
 have hs:=A1V w tw 3 134 130 _ H.cells.toArray h.1 B0G (by have:=h.2.1;have:=h.2.2;simp[J3,Hd.cells];omega) (by simpa using B5V H h1 h2);have e:=A9m (.iface 75 (.pointer (some ⟨b,0,none⟩))) (.int .i64 AC) (.iface 119 (.pointer (some ⟨fw,0,none⟩))) AD H.cells AA AB h.2.1 rfl;have e3:H.cells.toArray.size=20:=rfl;rw[e3] at hs;rw[show H.cells.toArray.toList=H.cells from rfl] at hs;rw[e] at hs;exact⟨_,hs,⟨setRow_heap w tw _ _ 134 (0,0) h.1,rfl,h.2.2⟩,(Fr.refl _ _ w).setRow (.inl (by simp)) _⟩
end Go.Proofs.YtkanmkcojlefbaaGreatDoor
namespace Go.Proofs.YtkanmkcojlefbaaGreatDoor
open Go.RowKit
variable {c0 c5 c6 c7 c9 iW iX iY iZ jA jB jC jD jE jF c20 c21 jG jH jI jJ jK iU iV jL jM jN jO jP jQ jR jS c37 jT jU jV jW jX jY jZ kA c46 kB kC kD kE c51 kF c53 kG kH kI kJ kL kM kO kP kQ kR kS kT kU kV kW kX kY kZ lA lB lC c75 lD lE lF lG c80 lH lI lJ lL c85 lM lO lP lQ lR lS lT lU lV lW lX lY lZ mA aA aB aD aF aG aH aI aJ aK aL aM aN aO aP aQ aR aS aT aU aV aW aX aY aZ bA bB bC c127 bD bE bF bG bH bI bJ bK bL bM bN bO bP bQ bR c143 bS c145 bT bU bV bW bX bY bZ cA cB cC cD cE cF cG cH cI cJ cL cM cO cP c167 c168 cQ cS c171 cT c173 cU c175 cV cW cX cY cZ dA dB dC dD dE dF dG dH dI dJ dL dM dO dP dQ dR dS dT dU dV dW dX dY dZ eA eC eD eH eJ c210 eK c212 c213 eO eR eS eV eW eX eY eZ fA fB fC fD fE fH fI fJ fK fL c232 c233 fN fO fP fQ fR fS fT fU fV fW fX fY fZ gA gB gC gD gE gF gG gH gI gJ gK gL gM gN gO gP gQ gR gT gU gW gX gY gZ hJ hZ iA iB iC iD iE iF iG iH iI iJ iK iL iM iN iO iP iQ iR iS iT:Value}
theorem A3w (G0:Nat) (E:Nat->Addr) (b0:Nat) (H:Hd) (R:KV) (u2 p g2 q:Bool) (M:KV) (n2:Nat) (w w2:World) (Aq:w.heap.size=b0)
  (AU:∀k v,M k=some v->F0 k v=true/\k.length<=2305843009213693952/\v.length<=2305843009213693952)
  (AQ:H.fmt=0\/H.fmt=2\/H.fmt=4\/H.fmt=8) (Az:fm (S8 u2 p g2 q H.fmt).1 (S8 u2 p g2 q H.fmt).2.1 (S8 u2 p g2 q H.fmt).2.2≠0)
  (AL:AF G0 E b0 H R u2 p g2 q M n2 w2) (Bi:n2<=4294967400) (AM:Below b0 w w2):
  Code.wp Tryz.prog B7T (bodyPost Tryz.prog Tryz.f65 (A1l G0 E (S8 u2 p g2 q H.fmt) M w)) ⟨(c0::.pointer (some ⟨b0,0,none⟩)::.pointer (some ⟨b0+1,0,none⟩)::.pointer (some ⟨b0+2,0,none⟩)::.nilIface::c5::c6::c7::.pointer (some ⟨b0+7,0,none⟩)::c9::iW::iX::iY::iZ::jA::jB::jC::jD::jE::jF::c20::c21::jG::jH::jI::jJ::jK::iU::iV::jL::jM::jN::jO::jP::jQ::jR::jS::c37::jT::jU::jV::jW::jX::jY::jZ::kA::c46::kB::kC::kD::kE::c51::kF::c53::kG::kH::kI::kJ::kL::kM::kO::kP::kQ::kR::kS::kT::kU::kV::kW::kX::kY::kZ::lA::lB::lC::c75::lD::lE::lF::lG::c80::lH::lI::lJ::lL::c85::lM::lO::lP::lQ::lR::lS::lT::lU::lV::lW::lX::lY::lZ::mA::aA::aB::aD::aF::aG::aH::aI::aJ::aK::aL::aM::aN::aO::aP::aQ::aR::aS::aT::aU::aV::aW::aX::aY::aZ::bA::bB::bC::c127::bD::bE::bF::bG::bH::bI::bJ::bK::bL::bM::bN::bO::bP::bQ::bR::c143::bS::c145::bT::bU::bV::bW::bX::bY::bZ::cA::cB::cC::cD::cE::cF::cG::cH::cI::cJ::cL::cM::cO::cP::c167::c168::cQ::cS::c171::cT::c173::cU::c175::cV::cW::cX::cY::cZ::dA::dB::dC::dD::dE::dF::dG::dH::dI::dJ::dL::dM::dO::dP::dQ::dR::dS::dT::dU::dV::dW::dX::dY::dZ::eA::eC::eD::eH::eJ::c210::eK::c212::c213::eO::eR::eS::eV::eW::eX::eY::eZ::fA::fB::fC::fD::fE::fH::fI::fJ::fK::fL::c232::c233::fN::fO::fP::fQ::fR::fS::fT::fU::fV::fW::fX::fY::fZ::gA::gB::gC::gD::gE::gF::gG::gH::gI::gJ::gK::gL::gM::gN::gO::gP::gQ::gR::gT::gU::gW::gX::gY::gZ::hJ::hZ::iA::iB::iC::iD::iE::iF::iG::iH::iI::iJ::iK::iL::iM::iN::iO::iP::iQ::iR::iS::iT::[]).toArray,[]⟩ w2:=by
 conv=>arg 2;whnf
 have Aj:=A0 Aq;have AY:=A0 AU;have BJ:=A0 AQ;have BO:=A0 Az;clear Aq AU AQ Az;have c3:w2.cell? ⟨b0+2,0,none⟩=some (.map (some (b0+3))):=by rw[zA AL.fM];rfl
 have Ay:=AL.mp;have BD:=A0 AL;have AR:=AL.lt;clear AL;go_wp2_with (at_range;refine X3 _ rfl _ rfl (b0+3) n2 M rfl Ay ?_;intro w0 AZ AS BU Ad BX)
 go_frame
 have Ak:Hid (A9w G0 E b0 H R u2 p g2 q M n2 w2.heap.size w2 w0):=A0 ⟨_,AZ,AS,BD.out.other (j:=w2.heap.size) (A0w (Ad.but (some w2.heap.size)) _) (by omega),Fr.below_of (A0w (Ad.but (some w2.heap.size)) w2.heap.size) (by omega) (by simp;omega)⟩;clear AS BU Ad BX c3 Ay;have AX:=A0 AM;clear AM;obtain⟨r1,Ag⟩:∃r1,r1=w2.heap.size:=⟨_,rfl⟩;rw[<-Ag] at Ak AR⊢;have Be:=A0 Ag;clear Ag;go_loopw [4,25] (λs4 _ wr=>s4= .nilIface/\Hid (A9w G0 E b0 H R u2 p g2 q M n2 r1 w2 wr)) (λ_ _ wr=>wr.rangeLeft (b0+3) r1)
 case atStart=>exact⟨rfl,Ak⟩
 case round=>
  obtain⟨rfl,hrel⟩:=hrel;obtain⟨Ah,BP,AW,An,Au⟩:=hrel.out;have AE:=A0 An;have Ai:=A0 Au;have Al:=A0 AW;clear hrel An Au;go_wp2_with (at_next;refine Z1 _ rfl _ rfl (b0+3) r1 n2 M Ah BP rfl AW ?_ ?_)
  ·intro BT BZ
   clear AW BT BZ Al;have hF:=AE.out.fF;have hQ:=AE.out.pr;have cf:=AE.out.hd 19 (.int .i64 H.fmt) rfl;have h8:=A8 hQ;go_upto_if 250 with fail
   have AV:=AE.out.below ((zD _ wr).alloc (zB _) (.cells #[.int .i64 H.fmt] 128));have AO:=zI wr (.cells #[.int .i64 H.fmt] 128);have Ao:Below b0 wr (wr.alloc (.cells #[.int .i64 H.fmt] 128)):=(zD b0 wr).alloc (by omega) _;generalize wr.alloc (.cells #[.int .i64 H.fmt] 128)=W at*;generalize AP:wr.heap.size=fb at*;generalize Av:S8 u2 p g2 q H.fmt=ff at*;generalize hx:H.fmt=x at*;have AG:=A0 AV;have AH:=A0 Ao;have AI:=A0 Av;have HX:=A0 hx;have BI:=A0 AP;have AC:=AV.fF;have BS:W.cell? ⟨b0+7,0,none⟩=some (.bool q):=by rw[zA AV.pr];rfl
   have iU:W.cell? ⟨fb,0,none⟩=some (.int .i64 x):=by rw[zA AO];rfl
   have Ae:fb≠b0+1:=by omega
   have Af:fb≠b0+7:=by omega
   have BV:fb<W.heap.size:=A8 AO;clear AV Ao Av hx hF hQ cf AP;go_cut [] (λwx=>AF G0 E b0 H R ff.1 ff.2.1 ff.2.2 q M n2 wx/\Below b0 wr wx)
   case first=>
    rcases BJ.out with rfl|rfl|rfl|rfl
    ·clear AC
     go_wp2_with fail
     go_meet
     refine⟨?_,AH.out⟩;have e:=AI.out;simp only[S8,if_true] at e;rw[<-e];exact AG.out
    ·have hh:Calls Tryz.prog 66 #[.int .i64 2,.int .i64 4] W (C4 W (.bool false)):=A5o W true false false false true false
     have hm:Calls Tryz.prog 123 #[.pointer (some ⟨b0+1,0,none⟩),.int .i64 2] W (C4 (W.setCell ⟨b0+1,0,none⟩ (.int .i64 (fm u2 false false))) (.tuple #[])):=by
      have:=R6 W (b0+1) u2 p g2 true false false AC;rw[Bool.and_true,Bool.and_false,Bool.and_false] at this;exact this
     have AB:=AG.out.setF u2 false false;have AD:=A0 AB;clear AC AB;go_wp2_with (first|(go_at_call 66;refine hh.mono ?_;rintro e w' ⟨rfl,rfl⟩)|(go_at_call 123;refine hm.mono ?_;rintro e w' ⟨rfl,rfl⟩))
     go_meet
     refine⟨?_,AH.out.setCell (p:=⟨b0+1,0,none⟩) (by simp) _⟩;have e:S8 u2 p g2 q 2=ff:=AI.out;rw[show S8 u2 p g2 q 2=(u2,false,false) from rfl] at e;rw[<-e];exact AD.out
    ·have hh:Calls Tryz.prog 66 #[.int .i64 4,.int .i64 4] W (C4 W (.bool true)):=A5o W false true false false true false
     have e:S8 u2 p g2 q 4=ff:=AI.out;rw[show S8 u2 p g2 q 4=(u2&& !q,p,false) from rfl] at e;have HE:=A0 e;clear e;cases q
     ·have hb:Calls Tryz.prog 127 #[.pointer (some ⟨fb,0,none⟩),.int .i64 2] W (C4 (W.setCell ⟨fb,0,none⟩ (.int .i64 6)) (.tuple #[])):=B7J W fb false true false true false false AO
      have Ab:=AG.out.other (j:=fb) ((Fr.refl W.heap.size [fb] W).setCell (p:=⟨fb,0,none⟩) (.inl (by simp)) (.int .i64 6)) (by omega)
      have iV: (W.setCell ⟨fb,0,none⟩ (.int .i64 6)).cell? ⟨fb,0,none⟩=some (.int .i64 6):=by
       rw[zA (B6 _ AO)];rfl
      have hm:Calls Tryz.prog 123 #[.pointer (some ⟨b0+1,0,none⟩),.int .i64 6] (W.setCell ⟨fb,0,none⟩ (.int .i64 6)) (C4 ((W.setCell ⟨fb,0,none⟩ (.int .i64 6)).setCell ⟨b0+1,0,none⟩ (.int .i64 (fm u2 p false))) (.tuple #[])):=by
       have:=R6 _ (b0+1) u2 p g2 true true false Ab.fF;rw[Bool.and_true,Bool.and_true,Bool.and_false] at this;exact this
      have AB:=Ab.setF u2 p false;have AD:=A0 AB;clear AC AB Ab;go_wp2_with (first|(go_at_call 66;refine hh.mono ?_;rintro e w' ⟨rfl,rfl⟩)|(go_at_call 127;refine hb.mono ?_;rintro e w' ⟨rfl,rfl⟩)|(go_at_call 123;refine hm.mono ?_;rintro e w' ⟨rfl,rfl⟩))
      go_meet
      refine⟨?_,(AH.out.setCell (p:=⟨fb,0,none⟩) (by show b0<=fb;omega) _).setCell (p:=⟨b0+1,0,none⟩) (by simp) _⟩;have e:=HE.out;rw[Bool.not_false,Bool.and_true] at e;rw[<-e];exact AD.out
     ·have hm:Calls Tryz.prog 123 #[.pointer (some ⟨b0+1,0,none⟩),.int .i64 4] W (C4 (W.setCell ⟨b0+1,0,none⟩ (.int .i64 (fm false p false))) (.tuple #[])):=by
       have:=R6 W (b0+1) u2 p g2 false true false AC;rw[Bool.and_true,Bool.and_false,Bool.and_false] at this;exact this
      have AB:=AG.out.setF false p false;have AD:=A0 AB;clear AC AB;go_wp2_with (first|(go_at_call 66;refine hh.mono ?_;rintro e w' ⟨rfl,rfl⟩)|(go_at_call 123;refine hm.mono ?_;rintro e w' ⟨rfl,rfl⟩))
      go_meet
      refine⟨?_,AH.out.setCell (p:=⟨b0+1,0,none⟩) (by simp) _⟩;have e:=HE.out;rw[Bool.not_true,Bool.and_false] at e;rw[<-e];exact AD.out
    ·have hh:Calls Tryz.prog 66 #[.int .i64 8,.int .i64 4] W (C4 W (.bool false)):=A5o W false false true false true false
     have hm:Calls Tryz.prog 123 #[.pointer (some ⟨b0+1,0,none⟩),.int .i64 8] W (C4 (W.setCell ⟨b0+1,0,none⟩ (.int .i64 (fm false false g2))) (.tuple #[])):=by
      have:=R6 W (b0+1) u2 p g2 false false true AC;rw[Bool.and_true,Bool.and_false,Bool.and_false] at this;exact this
     have AB:=AG.out.setF false false g2;have AD:=A0 AB;clear AC AB;go_wp2_with (first|(go_at_call 66;refine hh.mono ?_;rintro e w' ⟨rfl,rfl⟩)|(go_at_call 123;refine hm.mono ?_;rintro e w' ⟨rfl,rfl⟩))
     go_meet
     refine⟨?_,AH.out.setCell (p:=⟨b0+1,0,none⟩) (by simp) _⟩;have e:S8 u2 p g2 q 8=ff:=AI.out;rw[show S8 u2 p g2 q 8=(false,false,g2) from rfl] at e;rw[<-e];exact AD.out
   case rest=>
    obtain⟨AA,As⟩:=hcut;clear AO AC BS iU Ae Af BV AG AH AI AE;obtain⟨w9,rfl⟩:∃w9:World,w9=wc:=⟨_,rfl⟩;have Bk: (fm ff.1 ff.2.1 ff.2.2==0)=false:=by rw[zG];exact BO.out
    have c2:w9.cell? ⟨b0+1,0,none⟩=some (.int .i64 (fm ff.1 ff.2.1 ff.2.2)):=by rw[zA AA.fF];rfl
    have c3:w9.cell? ⟨b0+2,0,none⟩=some (.map (some (b0+3))):=by rw[zA AA.fM];rfl
    have z2:w9.frozen? ⟨b0+1,0,none⟩=false:=zE AA.fF 0;have z3:w9.frozen? ⟨b0+2,0,none⟩=false:=zE AA.fM 0;have BE:=A0 AA;have BH:=A0 As;generalize Aw:fm ff.1 ff.2.1 ff.2.2=fv at*;have BL:=A0 Aw;clear AA As Aw;go_wp2_with fail
    go_region
    go_wp2_with fail
    have AA:=BE.out;have h1:=B6 (i:=0) (.int .i64 fv) AA.fF;have BQ:=(C0 (w:=w9.setCell ⟨b0+1,0,none⟩ (.int .i64 fv)) (a:=⟨b0+2,0,none⟩) (k:=b0+1) (.map (some (b0+3))) (by show b0+1≠b0+2;omega)).trans h1;have h2:=(C0 (w:=w9) (a:=⟨b0+1,0,none⟩) (k:=b0+2) (.int .i64 fv) (by show b0+2≠b0+1;omega)).trans AA.fM;have BR:=B6 (i:=0) (.map (some (b0+3))) h2;have F9:Fr b0 [b0+1,b0+2] w9 ((w9.setCell ⟨b0+1,0,none⟩ (.int .i64 fv)).setCell ⟨b0+2,0,none⟩ (.map (some (b0+3)))).drew:=(((Fr.refl _ _ w9).setCell (p:=⟨b0+1,0,none⟩) (.inl (by simp)) _).setCell (p:=⟨b0+2,0,none⟩) (.inl (by simp)) _).drew;have BW:=AA.le;refine bodyPost_ret (A8M rfl _ _ ⟨b0+1,0,none⟩ ⟨b0+2,0,none⟩ (.int .i64 fv) (.map (some (b0+3))) rfl rfl ?_ ?_) rfl ⟨b0+3,n2,?_,?_,?_,?_,?_,?_⟩
    ·exact(zA BQ 0).trans rfl
    ·exact(zA BR 0).trans rfl
    ·rw[BL.out];rfl
    ·exact AA.mp.fr F9 (by simp)
    ·omega
    ·rw[Aj.out];omega
    ·exact AA.gl.fr F9 BW (by simp;omega)
    ·rw[Aj.out]
     exact(((AX.out.trans (Ai.out.trans BH.out)).setCell (p:=⟨b0+1,0,none⟩) (by simp) _).setCell (p:=⟨b0+2,0,none⟩) (by simp) _).drew
  ·intro k v w1 Aa Bh Bj Ba Ap AT Ax Ac BY Bg
   have Am:=AE.out.other Ac AR;have Ar:Below b0 wr w1:=Fr.below_of Ac (by have:=AE.out.lt;omega) (by simp;omega);obtain⟨BA,Bb,Bc⟩:=AY.out k v Ap;have Bd:=A0c w1 k v Bb Bc BA;have BC:=A0 Am;have AJ:=A0 AT;have BF:=A0 Ar;have BM:=A0 Ax;clear AW Am AT Ar Ax BA Ac Ba Ap BY;go_wp2_with (go_at_call 126;refine Bd.mono ?_;rintro e w' ⟨rfl,rfl⟩)
   go_roundw
   case rel=>exact⟨rfl,A0 ⟨_,Aa,AJ.out,BC.out,Ai.out.trans BF.out⟩⟩
   case measure=>rw[AJ.out.left_eq,Al.out.left_eq];exact BM.out
end Go.Proofs.YtkanmkcojlefbaaGreatDoor
namespace Go.Proofs.YtkanmkcojlefbaaGreatDoor
open Go.RowKit
variable {c0 c5 c6 c7 c9 iW iX iY iZ jA jB jC jD jE jF c20 c21 jG jH jI jJ jK iU iV jL jM jN jO jP jQ jR jS c37 jT jU jV jW jX jY jZ kA c46 kB kC kD kE c51 kF c53 kG kH kI kJ kL kM kO kP kQ kR kS kT kU kV kW kX kY kZ lA lB lC c75 lD lE lF lG c80 lH lI lJ lL c85 lM lO lP lQ lR lS lT lU lV lW lX lY lZ mA aA aB aD aF aG aH aI aJ aK aL aM aN aO aP aQ aR aS aT aU aV aW aX aY aZ bA bB bC c127 bD bE bF bG bH bI bJ bK bL bM bN bO bP bQ bR c143 bS c145 bT bU bV bW bX bY bZ cA cB cC cD cE cF cG cH cI cJ cL cM cO cP c167 c168 cQ cS c171 cT c173 cU c175 cV cW cX cY cZ dA dB dC dD dE dF dG dH dI dJ dL dM dO dP dQ dR dS dT dU dV dW dX dY dZ eA eC eD eH eJ c210 eK c212 c213 eO eR eS eV eW eX eY eZ fA fB fC fD fE fH fI fJ fK fL c232 c233 fN fO fP fQ fR fS fT fU fV fW fX fY fZ gA gB gC gD gE gF gG gH gI gJ gK gL gM gN gO gP gQ gR gT gU gW gX gY gZ hJ hZ iA iB iC iD iE iF iG iH iI iJ iK iL iM iN iO iP iQ iR iS iT:Value}
theorem A6i (G0:Nat) (E:Nat->Addr) (b0:Nat) (H:Hd) (R:KV) (S:St) (w wc:World) (AH:w.heap.size=b0) (AL:H.xattr= .map none)
  (AB:∀k v,R3 S.m R H.typ k=some v->F0 k v=true/\k.length<=2305843009213693952/\v.length<=2305843009213693952)
  (AI:∀k,R k=none) (AA:H.fmt=0\/H.fmt=2\/H.fmt=4\/H.fmt=8)
  (AJ:fm (S8 (S.u&& !false) S.p (S.g&& !false) S.q H.fmt).1 (S8 (S.u&& !false) S.p (S.g&& !false) S.q H.fmt).2.1 (S8 (S.u&& !false) S.p (S.g&& !false) S.q H.fmt).2.2≠0)
  (hA:AFS G0 E b0 H R S 26 wc) (hB:Below b0 w wc):
  Code.wp Tryz.prog B5B (bodyPost Tryz.prog Tryz.f65 (A1l G0 E (S8 (S.u&& !false) S.p (S.g&& !false) S.q H.fmt) (R3 S.m R H.typ) w)) ⟨(c0::.pointer (some ⟨b0,0,none⟩)::.pointer (some ⟨b0+1,0,none⟩)::.pointer (some ⟨b0+2,0,none⟩)::.nilIface::c5::c6::c7::.pointer (some ⟨b0+7,0,none⟩)::c9::iW::iX::iY::iZ::jA::jB::jC::jD::jE::jF::c20::c21::jG::jH::jI::jJ::jK::iU::iV::jL::jM::jN::jO::jP::jQ::jR::jS::c37::jT::jU::jV::jW::jX::jY::jZ::kA::c46::kB::kC::kD::kE::c51::kF::c53::kG::kH::kI::kJ::kL::kM::kO::kP::kQ::kR::kS::kT::kU::kV::kW::kX::kY::kZ::lA::lB::lC::c75::lD::lE::lF::lG::c80::lH::lI::lJ::lL::c85::lM::lO::lP::lQ::lR::lS::lT::lU::lV::lW::lX::lY::lZ::mA::aA::aB::aD::aF::aG::aH::aI::aJ::aK::aL::aM::aN::aO::aP::aQ::aR::aS::aT::aU::aV::aW::aX::aY::aZ::bA::bB::bC::c127::bD::bE::bF::bG::bH::bI::bJ::bK::bL::bM::bN::bO::bP::bQ::bR::c143::bS::c145::bT::bU::bV::bW::bX::bY::bZ::cA::cB::cC::cD::cE::cF::cG::cH::cI::cJ::cL::cM::cO::cP::c167::c168::cQ::cS::c171::cT::c173::cU::c175::cV::cW::cX::cY::cZ::dA::dB::dC::dD::dE::dF::dG::dH::dI::dJ::dL::dM::dO::dP::dQ::dR::dS::dT::dU::dV::dW::dX::dY::dZ::eA::eC::eD::eH::eJ::c210::eK::c212::c213::eO::eR::eS::eV::eW::eX::eY::eZ::fA::fB::fC::fD::fE::fH::fI::fJ::fK::fL::c232::c233::fN::fO::fP::fQ::fR::fS::fT::fU::fV::fW::fX::fY::fZ::gA::gB::gC::gD::gE::gF::gG::gH::gI::gJ::gK::gL::gM::gN::gO::gP::gQ::gR::gT::gU::gW::gX::gY::gZ::hJ::hZ::iA::iB::iC::iD::iE::iF::iG::iH::iI::iJ::iK::iL::iM::iN::iO::iP::iQ::iR::iS::iT::[]).toArray,[]⟩ wc:=by
 conv=>arg 2;whnf
 have AC:=A0 AB;have AO:=A0 AA;have AP:=A0 AJ;have AM:=A0 AH;have HA:=A0 hA;have HB:=A0 hB;have AQ:=A0 AL;have AE:=A0 AI;clear AL AI;clear AH AB AA AJ hA hB;have hx:=HA.out.hd 17 H.xattr rfl;rw[AQ.out] at hx;have AD:=HA.out.hd 18 H.recs rfl;have AT:=A4B wc 3;go_upto_region 53 with fail
 go_cut [196] (λs196 wx=>s196= .bool false/\wx=wc)
 case first=>
  rcases HA.out.rm with ⟨hn,hR⟩|⟨rb,nR,hv,AX,hm,AY⟩
  ·rw[hn] at AD
   go_wp2_with fail
   go_meet
   exact⟨rfl,rfl⟩
  ·rw[hv] at AD
   obtain⟨c,AR,AV,AS⟩:=hm.len_run;have AW:=AR 3;have:c=0:=AS.2 AE.out;subst this;go_wp2_with fail
   go_meet
   exact⟨rfl,rfl⟩
 case rest=>
  obtain⟨rfl,rfl⟩:=hcut;clear hx AT AD;rename_i K1 AG K2 AU;have HK:=A0 AG;clear AG;go_wp2_with fail
  refine HK.out _ _ ?_;have e:=B1F S.m R H.typ AE.out;refine A3w G0 E b0 H R (S.u&& !false) S.p (S.g&& !false) S.q (R3 S.m R H.typ) 26 w wc AM.out AC.out AO.out AP.out ?_ (by omega) HB.out;rw[e,Bool.not_false,Bool.and_true,Bool.and_true];exact HA.out
end Go.Proofs.YtkanmkcojlefbaaGreatDoor
