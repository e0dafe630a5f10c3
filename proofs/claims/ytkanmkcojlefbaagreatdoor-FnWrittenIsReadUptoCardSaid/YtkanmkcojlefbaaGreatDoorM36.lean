/-
  Part of the proof; holds the texts Ref1, Ref2, Ref3, Ref4.
-/
import Derived.Test.YtkanmkcojlefbaaGreatDoorM29
set_option maxHeartbeats 4000000
set_option maxRecDepth 100000
set_option linter.unusedSimpArgs false
set_option linter.unusedVariables false
namespace Go.Proofs.YtkanmkcojlefbaaGreatDoor
open Go.RowKit
theorem A0K (l:List UInt8) (k:Nat) (h:k<l.length) (wx:World): (Instr.index 9 (str l) (.int .i64 k)).run Tryz.prog wx= .ok (.int .u8 l[k].toNat) wx:=by
 rw[run_index_string (P:=Tryz.prog) (w:=wx) 9 ⟨l.toArray⟩ .i64 k Tryz.underlying9,dif_pos ⟨by omega,by rw[I6];omega⟩];rfl
theorem B4e (l:List UInt8) (w:World) (hl:l.length<4611686018427387904):Calls Tryz.prog 82 #[str l] w (C4 w (.bool (decide (0∈l)))):=by
 go_enter Tryz.func82,Tryz.ntmps82
 go_wp2_with fail
 go_loop [6] (λi=>∃k:Nat,k<=l.length/\(∀j,j<k->l[j]?≠some 0)/\i= .int .i64 k) (λi=>l.length- (intOf i).toNat)
 case atStart=>exact⟨0,zW _,λj h=>by omega,rfl⟩
 case round=>
  obtain⟨k,hk,hb,rfl⟩:=hrel;by_cases AA:k<l.length
  ·have AB: (k:Int)<l.length:=by omega
   have hx:=A0K l k AA;have h0:=A0 hb;clear hb;by_cases hc:l[k]=0
   ·rw[hc] at hx
    go_wp2_with fail
    go_ret
    exact⟨by rw[zY (hc▸List.getElem_mem AA)];rfl,rfl⟩
   ·have AC:l[k].toNat≠0:=λe=>hc (UInt8.toNat_inj.1 e)
    have HC:=A0 (show l[k]?≠some 0 by rw[zF AA];simpa using hc);generalize l[k]=c at*;go_wp2_with fail
    go_round
    case rel=>exact⟨k+1,by omega,λj hj=>if h:j=k then h▸HC.out else h0.out j (by omega),by go_num⟩
    case measure=>simp[intOf];omega
  ·have AB:¬(k:Int)<l.length:=by omega
   have h0:=A0 hb;clear hb;go_wp2_with fail
   go_ret
   refine⟨?_,rfl⟩
   rw[zV (λhm=>by
    obtain⟨j,hj,e⟩:=List.getElem_of_mem hm;exact h0.out j (by omega) (by rw[zF hj,e]))];rfl
theorem B1N (l:List UInt8) (w:World) (hl:l.length<4611686018427387904):Calls Tryz.prog 83 #[str l] w (C4 w (.bool (D6 l))):=by
 go_enter Tryz.func83,Tryz.ntmps83
 go_wp2_with fail
 go_loop [6] (λi=>∃k:Nat,k<=l.length/\(∀j x,j<k->l[j]?=some x->A2a x=true)/\i= .int .i64 k) (λi=>l.length- (intOf i).toNat)
 case atStart=>exact⟨0,zW _,λj x h=>by omega,rfl⟩
 case round=>
  obtain⟨k,hk,hb,rfl⟩:=hrel;by_cases AB:k<l.length
  ·have AC: (k:Int)<l.length:=by omega
   have hx:=A0K l k AB;have h0:=A0 hb;have HK:=A0 (zF AB)
   have AA:A2a l[k]=false->D6 l=false:=λe=>by
    rw[Bool.eq_false_iff];intro h;have:=(A1J l).1 h k l[k] (zF AB);rw[e] at this;cases this
   have HB:=A0 AA;clear hb AA;generalize l[k]=c at*;by_cases h1:128<=c.toNat
   ·have h2: (128:Int)<=c.toNat:=by omega
    go_wp2_with fail
    go_ret
    exact⟨by rw[HB.out (by simp[A2a];omega)];rfl,rfl⟩
   ·have h2:¬(128:Int)<=c.toNat:=by omega
    by_cases hc:c=0
    ·subst hc
     go_wp2_with fail
     go_ret
     exact⟨by rw[HB.out (by decide)];rfl,rfl⟩
    ·have AD:c.toNat≠0:=λe=>hc (UInt8.toNat_inj.1 e)
     have HC:=A0 (show A2a c=true by simp[A2a];omega);go_wp2_with fail
     go_round
     case rel=>exact⟨k+1,by omega,λj x hj hy=>if h:j=k then by rw[h,HK.out] at hy;cases hy;exact HC.out else h0.out j x (by omega) hy,by go_num⟩
     case measure=>simp[intOf];omega
  ·have AC:¬(k:Int)<l.length:=by omega
   have h0:=A0 hb;clear hb;go_wp2_with fail
   go_ret
   refine⟨?_,rfl⟩;rw[(A1J l).2 (λj x hx=>h0.out j x (by have:=(zM.1 hx).1;omega) hx)];rfl
def J7 (b:Bool):Int:=if b then 1 else 2
theorem K6 (b:Bool) (w:World):Calls Tryz.prog 55 #[.bool b] w (C4 w (.int .i64 (J7 b))):=by
 cases b
 all_goals
  go_enter Tryz.func55,Tryz.ntmps55
  go_wp2_with fail
  go_ret
  exact⟨rfl,rfl⟩
def A4u (t:Int):Bool:=decide (t<49)||decide (54<t)
theorem A2C (t:Int) (w:World):Calls Tryz.prog 44 #[.int .u8 t] w (C4 w (.bool (A4u t))):=by
 by_cases h1:t<49<;>by_cases h2:54<t
 all_goals
  go_enter Tryz.func44,Tryz.ntmps44
  go_wp2_with fail
  go_ret
  exact⟨by simp[A4u,h1,h2],rfl⟩
def B1g (p:Prop) (w:World) (e:Ending) (w':World):Prop:=∃b,e= .returned (.bool b)/\Below w.heap.size w w'/\(b=false->p)
def A5y (p:Prop) (w:World) (e:Ending) (w':World):Prop:=∃b,e= .returned (.bool b)/\Below w.heap.size w w'/\(b=true->p)
def P9 (p:Prop) (w:World) (e:Ending) (w':World):Prop:=∃v,e= .returned (.int .i64 v)/\Below w.heap.size w w'/\(v=0\/v=1\/v=2)/\(v=1->p)
theorem L9 (b:Bool):J7 b=0\/J7 b=1\/J7 b=2:=by cases b<;>decide
def O9 (s n:Int):Prop:=0<=n/\n<=999999999/\(s= -62135596800->n≠0)
theorem A4b (s n:Int) (w:World):Calls Tryz.prog 52 #[.agg #[.int .i64 s,.int .i64 n]] w (B1g (O9 s n) w):=by
 have a1:=zI w (.cells #[.int .i64 s,.int .i64 n] 28);have c0: (w.alloc (.cells #[.int .i64 s,.int .i64 n] 28)).cell? ⟨w.heap.size,0,none⟩=some (.int .i64 s):=by rw[zA a1];rfl
 have c1: (w.alloc (.cells #[.int .i64 s,.int .i64 n] 28)).cell? ⟨w.heap.size,1,none⟩=some (.int .i64 n):=by rw[zA a1];rfl
 have hb:=A0 (λo=>(zD w.heap.size w).alloc (zB _) o);clear a1;by_cases h1:s= -62135596800<;>by_cases h2:n=0<;>by_cases h3:n<0<;>by_cases h4:999999999<n
 all_goals first|(exfalso;omega)|skip
 all_goals
  go_enter Tryz.func52,Tryz.ntmps52
  go_wp2_with fail
  go_ret
  refine⟨_,rfl,hb.out _,λh=> ?_⟩;first|(refine absurd h ?_;simp;done)|(unfold O9;refine⟨?_,?_,λh=> ?_⟩<;>omega)
def M0 (n f:Int) (p:Bool):Prop:=0<=n/\(f=3->n<72057594037927936)/\(f≠3->(f=2/\p=true)\/n<2097152)
def M1 (s n f:Int):Prop:= -100000000000000000<=s/\s<=100000000000000000/\(f≠2->n=0)
theorem A1B (n f:Int) (p:Bool) (w:World):Calls Tryz.prog 59 #[.int .i64 n,.int .i64 f,.bool p] w (P9 (M0 n f p) w):=by
 by_cases h3:f=3
 ·subst h3
  by_cases h1:n<0<;>by_cases h2:72057594037927936<=n<;>by_cases h4:n<144115188075855872<;>by_cases h5:n<72057594037927936
  all_goals first|(exfalso;omega)|skip
  all_goals
   go_enter Tryz.func59,Tryz.ntmps59
   go_wp2_with (go_at_call 55;refine(K6 _ _).mono ?_;rintro e w' ⟨rfl,rfl⟩)
   go_ret
   refine⟨_,rfl,zD _ _,by first|decide|exact L9 _,λh=> ?_⟩;first|(refine absurd h ?_;simp[J7];done)|(unfold M0;refine⟨?_,λ_=> ?_,λh=>absurd rfl h⟩<;>omega)
 ·have e3: (f==3)=false:=by simpa using h3
  by_cases h2:f=2
  ·subst h2
   cases p<;>by_cases h1:n<0<;>by_cases h4:0<=n<;>by_cases h5:n<2097152
   all_goals first|(exfalso;omega)|skip
   all_goals
    go_enter Tryz.func59,Tryz.ntmps59
    go_wp2_with (go_at_call 55;refine(K6 _ _).mono ?_;rintro e w' ⟨rfl,rfl⟩)
    go_ret
    refine⟨_,rfl,zD _ _,by first|decide|exact L9 _,λh=> ?_⟩;first|(refine absurd h ?_;simp[J7];done)|(unfold M0;refine⟨?_,λh=> ?_,λ_=> .inl ⟨rfl,?_⟩⟩<;>first|omega|rfl)|(unfold M0;refine⟨?_,λh=> ?_,λ_=> .inr ?_⟩<;>omega)
  ·have e2: (f==2)=false:=by simpa using h2
   by_cases h4:0<=n<;>by_cases h5:n<2097152
   all_goals first|(exfalso;omega)|skip
   all_goals
    go_enter Tryz.func59,Tryz.ntmps59
    go_wp2_with (go_at_call 55;refine(K6 _ _).mono ?_;rintro e w' ⟨rfl,rfl⟩)
    go_ret
    refine⟨_,rfl,zD _ _,by first|decide|exact L9 _,λh=> ?_⟩;first|(refine absurd h ?_;simp[J7];done)|(unfold M0;refine⟨?_,λh=> ?_,λ_=> .inr ?_⟩<;>omega)
theorem W2 (s n f:Int) (w:World):Calls Tryz.prog 60 #[.agg #[.int .i64 s,.int .i64 n],.int .i64 f] w (P9 (M1 s n f) w):=by
 have a1:=zI w (.cells #[.int .i64 s,.int .i64 n] 28);have c0: (w.alloc (.cells #[.int .i64 s,.int .i64 n] 28)).cell? ⟨w.heap.size,0,none⟩=some (.int .i64 s):=by rw[zA a1];rfl
 have c1: (w.alloc (.cells #[.int .i64 s,.int .i64 n] 28)).cell? ⟨w.heap.size,1,none⟩=some (.int .i64 n):=by rw[zA a1];rfl
 have hb:=A0 (λo=>(zD w.heap.size w).alloc (zB _) o);clear a1;by_cases h1:100000000000000000<s<;>by_cases h2:s< -100000000000000000<;>by_cases h3:f=2<;>by_cases h4:n=0
 all_goals first|(exfalso;omega)|skip
 all_goals
  go_enter Tryz.func60,Tryz.ntmps60
  go_wp2_with fail
  all_goals go_ret
  all_goals refine⟨_,rfl,hb.out _,by decide,λh=> ?_⟩
  all_goals first|(refine absurd h ?_;simp;done)|(exfalso;simp_all;done)|(unfold M1;refine⟨?_,?_,λh=> ?_⟩<;>omega)
def A0V (l:List UInt8):Bool:=l.getLast?==some 47
theorem A4F (l:List UInt8) (w:World) (hl:l.length<4611686018427387904):Calls Tryz.prog 53 #[str l] w (C4 w (.bool (A0V l))):=by
 cases hn:l with
 |nil=>
  go_enter Tryz.func53,Tryz.ntmps53
  go_wp2_with fail
  go_ret
  exact⟨rfl,rfl⟩
 |cons c r=>
  rw[<-hn];have hp:0<l.length:=by rw[hn];simp
  have hx:=A0K l (l.length-1) (by omega)
  have hs:A0V l=(l[l.length-1].toNat==47):=by
   rw[A0V,List.getLast?_eq_getElem?,zF (by omega)];rw[Bool.eq_iff_iff];simp only[beq_iff_eq,Option.some.injEq];exact⟨λe=>by rw[e];rfl,λe=>UInt8.toNat_inj.1 e⟩
  have hw:IntKind.i64.wrap ((l.length:Int)-1)=((l.length-1:Nat):Int):=by rw[zQ _ (by omega)];omega
  have AD:l.isEmpty=false:=by rw[hn];rfl
  have HN:=A0 hn;rw[hs];clear hs hn;generalize l[l.length-1]=x at*;by_cases AB:x.toNat=47
  ·have AA: (x.toNat==47)=true:=by simp[AB]
   rw[AA];go_enter Tryz.func53,Tryz.ntmps53
   go_wp2_with fail
   go_ret
   exact⟨rfl,rfl⟩
  ·have AA: (x.toNat==47)=false:=by simp[AB]
   have AC:¬(x.toNat:Int)=47:=by omega
   rw[AA];go_enter Tryz.func53,Tryz.ntmps53
   go_wp2_with fail
   go_ret
   exact⟨by show Ending.returned (.bool ((x.toNat:Int)==47))=_;rw[show((x.toNat:Int)==47)=false by simpa using AC],rfl⟩
def A9y (l:List UInt8) (n:Int):Prop:=n=0\/(1<=n/\n<=l.length/\n<=4/\∀j:Nat,0<j->(j:Int)<n->l[j]?≠some 0)
def B6u (l:List UInt8) (w:World) (e:Ending) (w':World):Prop:=∃n,e= .returned (.int .i64 n)/\w=w'/\A9y l n
theorem B1S (l:List UInt8) (w:World) (hl:l.length<4611686018427387904) (h0:0<l.length):Calls Tryz.prog 50 #[str l] w (B6u l w):=by
 go_enter Tryz.func50,Tryz.ntmps50
 go_upto_block 0 with fail
 have e0:wrap64 (({data:=l.toArray}:ByteArray)[0]'(by rw[I6];exact h0)).toNat=(l[0].toNat:Int):=by
  have:=l[0].toNat_lt;show wrap64 (l[0].toNat:Int)=_
  unfold wrap64;omega
 simp only[e0];have e1:∀ (h:0< (⟨l.toArray⟩:ByteArray).size),(⟨l.toArray⟩:ByteArray)[0]=l[0]:=λh=>rfl;simp only[e1];clear e0 e1;generalize l[0]=c at*;go_cut [4,5,6] (λs4 s5 s6 wx=>(∃n:Nat,(n=0\/n=2\/n=3\/n=4)/\s4= .int .i64 n)/\(∃x,s5= .int .i64 x)/\(∃y,s6= .int .i64 y)/\wx=w)
 case first=>
  by_cases h1: (c.toNat:Int)<128
  ·go_wp2_with fail
   go_ret
   exact⟨1,rfl,rfl,.inr ⟨by omega,by omega,by omega,λj h1 h2=>by omega⟩⟩
  ·by_cases h2: (194:Int)<=c.toNat<;>by_cases h3: (c.toNat:Int)<224<;>by_cases h4: (c.toNat:Int)<240<;>by_cases h5: (c.toNat:Int)<245<;>by_cases h6: (224:Int)<=c.toNat<;>by_cases h7: (240:Int)<=c.toNat
   all_goals first|(exfalso;omega)|skip
   all_goals
    go_wp2_with fail
   all_goals go_meet
   all_goals exact⟨⟨_,by first|exact .inl rfl|exact .inr (.inl rfl)|exact .inr (.inr (.inl rfl))|exact .inr (.inr (.inr rfl)),rfl⟩,⟨_,rfl⟩,⟨_,rfl⟩,rfl⟩
 case rest=>
  obtain⟨⟨n,hn,rfl⟩,⟨x,rfl⟩,⟨y,rfl⟩,rfl⟩:=hcut;rcases Nat.eq_zero_or_pos n with rfl|hp
  ·go_wp2_with fail
   go_ret
   exact⟨0,rfl,rfl,.inl rfl⟩
  ·have AH: (2:Int)<=n/\(n:Int)<=4:=by omega
   have hz:¬(n:Int)=0:=by omega
   clear hn;by_cases AC: (l.length:Int)<n
   ·go_wp2_with fail
    go_ret
    exact⟨0,rfl,rfl,.inl rfl⟩
   ·go_wp2_with fail
    go_loop [7,5] (λs7 s5=>∃ (k:Nat) (x:Int),1<=k/\k<=n/\(∀j:Nat,0<j->j<k->l[j]?≠some 0)/\s7= .int .i64 k/\s5= .int .i64 x) (λs7 _=>n- (intOf s7).toNat)
    case atStart=>exact⟨1,_,by omega,by omega,λj h1 h2=>by omega,rfl,rfl⟩
    case round=>
     obtain⟨k,x,AD,AE,hb,rfl,rfl⟩:=hrel;have HB:=A0 hb;clear hb;by_cases AG: (k:Int)<n
     ·have AA:k<l.length:=by omega
      have AI:=A0K l k AA;have HK:=A0 (zF AA);generalize l[k]=d at*;by_cases hd:d=0
      ·subst hd
       go_wp2_with fail
       go_ret
       exact⟨0,rfl,rfl,.inl rfl⟩
      ·have HD:=A0 hd
       clear hd;go_wp2_with fail
       ·go_ret
        exact⟨0,rfl,rfl,.inl rfl⟩
       ·go_round
        case rel=>exact⟨k+1,_,by omega,by omega,λj h1 h2=>if h:j=k then by rw[h,HK.out];exact λe=>HD.out (by injection e) else HB.out j h1 (by omega),by go_num,rfl⟩
        case measure=>simp[intOf];omega
     ·have AB:k=n:=by omega
      subst AB;have HR:=A0 (show A9y l (k:Int) from .inr ⟨by omega,by omega,by omega,λj h1 h2=>HB.out j h1 (by omega)⟩);go_wp2_with fail
      all_goals go_ret
      all_goals first|exact⟨0,rfl,rfl,.inl rfl⟩|exact⟨(k:Int),rfl,rfl,HR.out⟩
theorem A5P (l:List UInt8) (w:World) (hl:l.length<4611686018427387904):Calls Tryz.prog 21 #[str l] w (A5y ((0:UInt8)∉l) w):=by
 go_enter Tryz.func21,Tryz.ntmps21
 go_wp2_with fail
 go_loop [3] (λs3=>∃k:Nat,k<=l.length/\(∀j:Nat,j<k->l[j]?≠some 0)/\s3= .int .i64 k) (λs3=>l.length- (intOf s3).toNat)
 case atStart=>exact⟨0,by omega,λj h=>by omega,rfl⟩
 case round=>
  obtain⟨k,hk,hb,rfl⟩:=hrel;have HB:=A0 hb;clear hb;by_cases AI: (k:Int)<l.length
  ·have AB:k<l.length:=by omega
   have hx:=A0K l k AB;have HK:=A0 (zF AB);generalize l[k]=c at*;have AD:=B1S (l.drop k) w (by rw[List.length_drop];omega) (by rw[List.length_drop];omega)
   have AC: (⟨l.toArray⟩:ByteArray).extract k l.length=⟨(l.drop k).toArray⟩:=by
    rw[L3,List.take_of_length_le (by rw[List.length_drop];omega)]
   have AA:Calls Tryz.prog 50 #[.string ((⟨l.toArray⟩:ByteArray).extract k l.length)] w (B6u (l.drop k) w):=by rw[AC];exact AD
   clear AC AD;go_wp2_with fail
   refine AA.mono ?_;clear AA;rintro e w' ⟨n,rfl,rfl,hn⟩;rcases hn with rfl|⟨h1,h2,h3,h4⟩
   ·go_wp2_with fail
    go_ret
    exact⟨false,rfl,zD _ _,λh=>by cases h⟩
   ·obtain⟨m,rfl⟩:∃m:Nat,n=m:=⟨n.toNat,by omega⟩
    rw[List.length_drop] at h2;have HN:=A0 h4;have AJ: ((m:Int)==0)=false:=by rw[zG];omega
    have h5: (k:Int)+m<=l.length:=by omega
    clear h4 h2;by_cases hc:c=0
    ·subst hc
     go_wp2_with fail
     go_ret
     exact⟨false,rfl,zD _ _,λh=>by cases h⟩
    ·have AH: ((c.toNat:Int)==0)=false:=by rw[zG];exact λe=>hc (UInt8.toNat_inj.1 (by simpa using e))
     have HC:=A0 hc;clear hc;go_wp2_with fail
     go_round
     case rel=>
      refine⟨k+m,by omega,λj hj=> ?_,by go_num⟩;by_cases AE:j<k
      ·exact HB.out j AE
      ·by_cases AG:j=k
       ·rw[AG,HK.out];exact λe=>HC.out (by injection e)
       ·have:=HN.out (j-k) (by omega) (by omega)
        rw[List.getElem?_drop,show k+(j-k)=j by omega] at this;exact this
     case measure=>simp[intOf];omega
  ·go_wp2_with fail
   go_ret
   exact⟨true,rfl,zD _ _,λ_ hm=>by
    obtain⟨j,hj,e⟩:=List.getElem_of_mem hm;exact HB.out j (by omega) (by rw[zF hj,e])⟩
def A0A (s:List UInt8) (n f:Int):Prop:=(0:UInt8)∉s/\(f=1->D6 s=true/\s.length<=n)
theorem A5O (s:List UInt8) (n f:Int) (w:World) (hl:s.length<4611686018427387904):Calls Tryz.prog 54 #[str s,.int .i64 n,.int .i64 f] w (P9 (A0A s n f) w):=by
 have AA:=B4e s w hl;by_cases hz: (0:UInt8)∈s
 ·rw[zY hz] at AA
  go_enter Tryz.func54,Tryz.ntmps54
  go_wp2_with fail
  refine AA.mono ?_;rintro e w' ⟨rfl,rfl⟩;go_wp2_with fail
  go_ret
  exact⟨0,rfl,zD _ _,by decide,λh=>by cases h⟩
 ·rw[zV hz] at AA
  have HZ:=A0 hz;clear hz;by_cases h1:f=1
  ·subst h1
   have AB:=B1N s w hl;go_enter Tryz.func54,Tryz.ntmps54
   go_wp2_with fail
   refine AA.mono ?_;rintro e w' ⟨rfl,rfl⟩;cases ha:D6 s with
   |false=>
    rw[ha] at AB;go_wp2_with fail
    refine AB.mono ?_;rintro e w' ⟨rfl,rfl⟩;go_wp2_with (go_at_call 55;refine(K6 _ _).mono ?_;rintro e w' ⟨rfl,rfl⟩)
    go_ret
    exact⟨2,rfl,zD _ _,by decide,λh=>by cases h⟩
   |true=>
    rw[ha] at AB;have HA:=A0 ha;clear ha;by_cases hn: (s.length:Int)<=n
    ·have HT:=A0 (show A0A s n 1 from⟨HZ.out,λ_=>⟨HA.out,hn⟩⟩)
     go_wp2_with fail
     refine AB.mono ?_;rintro e w' ⟨rfl,rfl⟩;go_wp2_with (go_at_call 55;refine(K6 _ _).mono ?_;rintro e w' ⟨rfl,rfl⟩)
     go_ret
     exact⟨1,rfl,zD _ _,by decide,λ_=>HT.out⟩
    ·go_wp2_with fail
     refine AB.mono ?_;rintro e w' ⟨rfl,rfl⟩;go_wp2_with (go_at_call 55;refine(K6 _ _).mono ?_;rintro e w' ⟨rfl,rfl⟩)
     go_ret
     exact⟨J7 (decide ((s.length:Int)<=n)),rfl,zD _ _,L9 _,λh=>absurd h (by rw[zV (by omega)];decide)⟩
  ·have HT:=A0 (show A0A s n f from⟨HZ.out,λh=>absurd h h1⟩)
   have AC:=A5P s w hl;by_cases h2:f=2
   ·subst h2
    go_enter Tryz.func54,Tryz.ntmps54
    go_wp2_with fail
    refine AA.mono ?_;rintro e w' ⟨rfl,rfl⟩;go_wp2_with fail
    refine AC.mono ?_;rintro e w' ⟨b,rfl,hb,-⟩;have HB:=A0 hb;clear hb;cases b
    all_goals
     go_wp2_with fail
     go_ret
     first|exact⟨0,rfl,HB.out,by decide,λh=>by cases h⟩|exact⟨1,rfl,HB.out,by decide,λ_=>HT.out⟩
   ·go_enter Tryz.func54,Tryz.ntmps54
    go_wp2_with fail
    refine AA.mono ?_;rintro e w' ⟨rfl,rfl⟩;go_wp2_with fail
    go_ret
    exact⟨1,rfl,zD _ _,by decide,λ_=>HT.out⟩
theorem M8 (xs:List Int) (g c:Nat) (w:World) (AD:At w g 0 (xs.map (.int .i64))) (h3:∀x∈xs,x=0\/x=1\/x=2) (hl:xs.length<=100):Calls Tryz.prog 57 #[.slice (some ⟨g,0,none⟩) xs.length c] w (P9 (∀x∈xs,x=1) w):=by
 have AE:=A0 AD;have H3:=A0 h3;clear AD h3;go_enter Tryz.func57,Tryz.ntmps57
 go_wp2_with fail
 go_loop [8,3] (λs8 s3=>∃ (k:Nat) (v:Int),k<=xs.length/\(v=0\/v=1\/v=2)/\(v=1->∀ (j:Nat) x,j<k->xs[j]?=some x->x=1)/\s8= .int .i64 k/\s3= .int .i64 v) (λs8 _=>xs.length- (intOf s8).toNat)
 case atStart=>exact⟨0,1,by omega,by decide,λ_ j x h=>by omega,rfl,rfl⟩
 case round=>
  obtain⟨k,v,hk,hv,hb,rfl,rfl⟩:=hrel;have HB:=A0 hb;clear hb;by_cases AH: (k:Int)<xs.length
  ·have AC:k<xs.length:=by omega
   have hc:=AE.out k (.int .i64 xs[k]) (by rw[List.getElem?_map,zF AC];rfl);rw[Nat.zero_add] at hc;have HK:=A0 (zF AC);have hx:=H3.out xs[k] (List.getElem_mem AC);generalize xs[k]=y at*
   have AA: (y=1\/v≠1)->Hid (v=1->∀ (j:Nat) x,j<k+1->xs[j]?=some x->x=1):=λhy=>A0 λh1 j x hj hx=>by
    by_cases h:j=k
    ·rw[h,HK.out] at hx
     injection hx with hx
     rw[<-hx];rcases hy with hy|hy
     ·exact hy
     ·exact absurd h1 hy
    ·exact HB.out h1 j x (by omega) hx
   have AB:=A0 AA;clear AA;rcases hx with rfl|rfl|rfl<;>rcases hv with rfl|rfl|rfl
   all_goals
    go_wp2_with fail
    go_round
    case rel=>first|exact⟨k+1,_,by omega,by decide,(AB.out (by decide)).out,by go_num,rfl⟩|exact⟨k+1,_,by omega,by decide,λh=>absurd h (by decide),by go_num,rfl⟩
    case measure=>simp[intOf];omega
  ·have AG:k=xs.length:=by omega
   subst AG;go_wp2_with fail
   go_ret
   exact⟨v,rfl,zD _ _,hv,λh x hx=>by
    obtain⟨j,hj,e⟩:=List.getElem_of_mem hx;exact HB.out h j x hj (by rw[zF hj,e])⟩
def Y6 (s:List UInt8) (f:Int):Prop:=(0:UInt8)∉s/\(f=1->D6 s=true/\s.length<=32)/\(f=3->s.length<=32)/\(f≠2->s.length≠32)
theorem O5 (w:World) (cs:List Value) (T:TypeId):At (w.alloc (.cells cs.toArray T)) w.heap.size 0 cs:=
 At.of_heap (zI w _) (λj u hj=>by rw[Nat.zero_add,List.getElem?_toArray];exact hj)
theorem A6S (s:List UInt8) (f:Int) (w:World) (hl:s.length<4611686018427387904):Calls Tryz.prog 58 #[str s,.int .i64 f] w (P9 (Y6 s f) w):=by
 have ht:=A0 (A5O s 32 f w hl)
 have AH:∀ (v:Int) (w1 w2:World),Below w.heap.size w w1->Below (w1.alloc (.cells #[.int .i64 v,.int .i64 0] 3)).heap.size (w1.alloc (.cells #[.int .i64 v,.int .i64 0] 3)) w2->Below w.heap.size w w2:=λv w1 w2 h1 h2=>
  (h1.alloc h1.size _).trans (h2.mono (zP h1.size (by simp)))
 have AG:=A0 AH;clear AH;by_cases h3:f=3
 ·subst h3
  by_cases hg: (32:Int)<s.length
  ·go_enter Tryz.func58,Tryz.ntmps58
   go_wp2_with fail
   refine ht.out.mono ?_;rintro e w1 ⟨v,rfl,hb,hv,hp⟩;have HB:=A0 hb;have HP:=A0 hp;clear hb hp ht;go_wp2_with fail
   go_ret
   exact⟨2,rfl,HB.out,by decide,λh=>absurd h (by decide)⟩
  ·by_cases he: (s.length:Int)=32
   ·go_enter Tryz.func58,Tryz.ntmps58
    go_wp2_with fail
    refine ht.out.mono ?_;rintro e w1 ⟨v,rfl,hb,hv,hp⟩;have HB:=A0 hb;have HP:=A0 hp;clear hb hp ht;go_wp2_with fail
    refine(M8 [v,0] w1.heap.size 2 _ (O5 w1 [.int .i64 v,.int .i64 0] 3) (by intro x hx;simp at hx;omega) (by simp)).mono ?_;rintro e w2 ⟨v2,rfl,AA,AE,AB⟩;have AC:=A0 AA;have AD:=A0 AB;clear AA AB;go_wp2_with fail
    go_ret
    exact⟨v2,rfl,AG.out _ _ _ HB.out AC.out,AE,λh=>absurd (AD.out h 0 (by simp)) (by decide)⟩
   ·have HK:Hid (A0A s 32 3->Y6 s 3):=A0 λh=>⟨h.1,λe=>⟨(h.2 e).1,by have:=(h.2 e).2;omega⟩,λe=>by omega,λe=>by omega⟩
    go_enter Tryz.func58,Tryz.ntmps58
    go_wp2_with fail
    refine ht.out.mono ?_;rintro e w1 ⟨v,rfl,hb,hv,hp⟩;have HB:=A0 hb;have HP:=A0 hp;clear hb hp ht;go_wp2_with fail
    go_ret
    exact⟨v,rfl,HB.out,hv,λh=>HK.out (HP.out h)⟩
 ·by_cases h2:f=2
  ·subst h2
   have HK:Hid (A0A s 32 2->Y6 s 2):=A0 λh=>⟨h.1,λe=>⟨(h.2 e).1,by have:=(h.2 e).2;omega⟩,λe=>by omega,λe=>by omega⟩;go_enter Tryz.func58,Tryz.ntmps58
   go_wp2_with fail
   refine ht.out.mono ?_;rintro e w1 ⟨v,rfl,hb,hv,hp⟩;have HB:=A0 hb;have HP:=A0 hp;clear hb hp ht;go_wp2_with fail
   go_ret
   exact⟨v,rfl,HB.out,hv,λh=>HK.out (HP.out h)⟩
  ·by_cases he: (s.length:Int)=32
   ·go_enter Tryz.func58,Tryz.ntmps58
    go_wp2_with fail
    refine ht.out.mono ?_;rintro e w1 ⟨v,rfl,hb,hv,hp⟩;have HB:=A0 hb;have HP:=A0 hp;clear hb hp ht;go_wp2_with fail
    refine(M8 [v,0] w1.heap.size 2 _ (O5 w1 [.int .i64 v,.int .i64 0] 3) (by intro x hx;simp at hx;omega) (by simp)).mono ?_;rintro e w2 ⟨v2,rfl,AA,AE,AB⟩;have AC:=A0 AA;have AD:=A0 AB;clear AA AB;go_wp2_with fail
    go_ret
    exact⟨v2,rfl,AG.out _ _ _ HB.out AC.out,AE,λh=>absurd (AD.out h 0 (by simp)) (by decide)⟩
   ·have HK:Hid (A0A s 32 f->Y6 s f):=A0 λh=>⟨h.1,λe=>⟨(h.2 e).1,by have:=(h.2 e).2;omega⟩,λe=>by omega,λe=>by omega⟩
    have AI: ((s.length:Int)==32)=false:=by simpa using he
    have e2: (f==2)=false:=by simpa using h2
    have e3: (f==3)=false:=by simpa using h3
    go_enter Tryz.func58,Tryz.ntmps58
    go_wp2_with fail
    refine ht.out.mono ?_;rintro e w1 ⟨v,rfl,hb,hv,hp⟩;have HB:=A0 hb;have HP:=A0 hp;clear hb hp ht;go_wp2_with fail
    all_goals go_ret
    all_goals exact⟨v,rfl,HB.out,hv,λh=>HK.out (HP.out h)⟩
def IH.scells (h:IH):List Value:=[.int .u8 h.typ,str h.name,str h.link,.int .i64 h.size,.int .i64 h.mode,.int .i64 h.uid,.int .i64 h.gid,str h.user,str h.group,.int .i64 h.ms,.int .i64 h.mn,.bool h.hasA,.bool h.hasC,.int .i64 h.ats,.int .i64 h.atn,.int .i64 h.cts,.int .i64 h.ctn,.int .i64 h.maj,.int .i64 h.mnr,h.recs,.int .i64 h.fmt]
def SB (g:Nat) (h:IH) (w:World):Prop:=w.heap[g]?=some (.cells h.scells.toArray 31 (0,0))
theorem SB.cell {g:Nat} {h:IH} {w:World} (hs:SB g h w) (k:Nat) (v:Value) (hv:h.scells[k]?=some v):w.cell? ⟨g,k,none⟩=some v:=by
 rw[zA hs,List.getElem?_toArray];exact hv
theorem SB.below {g B:Nat} {h:IH} {w w':World} (hs:SB g h w) (hb:Below B w w') (hg:g<B):SB g h w':=(hb.block g hg).trans hs
theorem B6C (h:IH) (hr:h.recs.oneCell'=true):∀v∈h.scells,v.oneCell'=true:=by
 intro v hv;simp only[IH.scells,List.mem_cons,List.not_mem_nil,or_false] at hv;rcases hv with rfl|rfl|rfl|rfl|rfl|rfl|rfl|rfl|rfl|rfl|rfl|rfl|rfl|rfl|rfl|rfl|rfl|rfl|rfl|rfl|rfl<;>first|rfl|exact hr
theorem B2X: (Tryz.prog.info? 31).map (·.size)=some 21:=by kernel_rfl
theorem B7j:∃d,Tryz.prog.underlying 31=some d/\B1s d=true:=⟨_,Tryz.underlying31,rfl⟩
theorem SB.load {g:Nat} {h:IH} {w:World} (hs:SB g h w): (loadVar 31 ⟨g,0,none⟩).run Tryz.prog w= .ok (.agg h.scells.toArray) w:=by
 obtain⟨d,u1,u2⟩:=B7j;exact A2A w g 0 31 h.scells.toArray (At.of_heap hs (λj v hj=>by rw[Nat.zero_add];simpa using hj)) d u1 u2 (by rw[B2X];rfl)
theorem A1X {w:World} {g:Nat} {z:Array Value} (h:IH) (hr:h.recs.oneCell'=true) (hz:z.size=21) (hg:w.heap[g]?=some (.cells z 31 (0,0))):
  ∃w',(storeVar 31 ⟨g,0,none⟩ (.agg h.scells.toArray)).run Tryz.prog w= .ok () w'/\SB g h w'/\(∀k,k≠g->w'.heap[k]?=w.heap[k]?)/\(∀ (B:Nat) (w0:World),Below B w0 w->B<=g->Below B w0 w')/\w'.heap.size=w.heap.size:=by
 have hs:=A1V w g 0 31 31 z h.scells.toArray hg (by rw[B2X];rfl) (by rw[hz];exact zB 21) (by simpa using B6C h hr)
 have e:z.toList.take 0++h.scells.toArray.toList++z.toList.drop (0+h.scells.toArray.size)=h.scells:=by
  rw[List.take_zero,List.nil_append,List.drop_eq_nil_of_le (by rw[Array.length_toList,hz];exact zB 21),QH]
 rw[e] at hs;refine⟨_,hs,setRow_heap w g z _ 31 _ hg,λk hk=>setRow_other w g k _ hk,λB w0 hb hB=> ?_,by simp⟩;exact⟨hb.os,hb.tape,hb.output,by simpa using hb.size,λk hk=>(setRow_other w g k _ (by omega)).trans (hb.block k hk)⟩
theorem B0I {R:Ending->World->Prop} {fn:Func} {t:Tmp} {a:Act} (g:Nat) (cs:Array Value) (AA:cs.size=21) (w:World) (hr:fn.results=#[.cell t 31]) (hp:a.tmps.getD t undef= .pointer (some ⟨g,0,none⟩)) (hd:a.defers=[])
  (hg:w.heap[g]?=some (.cells cs 31 (0,0))) (hR:R (.returned (.agg cs)) w):bodyPost Tryz.prog fn R .ret a w:=
 bodyPost_ret (results_cell_row hr _ _ g 31 cs (0,0) _ hp hg Tryz.underlying31 rfl (by rw[AA];kernel_rfl)) hd hR
theorem A6R (l:List UInt8):T9 l=A0V l:=by
 unfold T9 A0V Lib.hasSuffix;rw[Bool.eq_iff_iff];simp only[List.isSuffixOf_iff_suffix,beq_iff_eq];constructor
 ·rintro⟨t,rfl⟩;simp
 ·intro h
  obtain⟨t,rfl⟩:=List.getLast?_eq_some_iff.1 h;exact⟨t,rfl⟩
theorem SB.setTyp {g:Nat} {h:IH} {w:World} (hs:SB g h w) (x:Int):SB g {h with typ:=x} (w.setCell ⟨g,0,none⟩ (.int .u8 x)):=by
 have:=B6 (i:=0) (.int .u8 x) hs;rw[List.setIfInBounds_toArray] at this;exact this
theorem SB.hz {g:Nat} {h:IH} {w:World} (hs:SB g h w) (k:Nat):w.frozen? ⟨g,k,none⟩=false:=zE hs k
def B4r (h:IH) (w:World) (e:Ending) (w':World):Prop:=e= .returned (.agg h.scells.toArray)/\Below w.heap.size w w'
structure W31 (h:IH) (hb rb:Nat) (w0 w:World):Prop where
 S:SB hb h w
 Z:∃z:Array Value,z.size=21/\w.heap[rb]?=some (.cells z 31 (0,0))
 B:Below w0.heap.size w0 w
 h0:w0.heap.size<=hb
 r0:w0.heap.size<=rb
 ne:hb≠rb
theorem W31.new (h:IH) (w:World) (z:Array Value) (hz:z.size=21):W31 h w.heap.size (w.heap.size+1) w ((w.alloc (.cells h.scells.toArray 31)).alloc (.cells z 31)):=by
 have s1: (w.alloc (.cells h.scells.toArray 31)).heap.size=w.heap.size+1:=Array.size_push ..;refine⟨(zO _ _ _ (by omega)).trans (zI w _),⟨z,hz,?_⟩,((zD _ w).alloc (zB _) _).alloc (by omega) _,zB _,by omega,by omega⟩;rw[<-s1];exact zI _ _
theorem W31.below {h:IH} {hb rb:Nat} {w0 w w':World} (k:W31 h hb rb w0 w) (f:Below w.heap.size w w'):W31 h hb rb w0 w':=by
 obtain⟨z,z1,z2⟩:=k.Z;exact⟨k.S.below f (A8 k.S),⟨z,z1,(f.block rb (A8 z2)).trans z2⟩,k.B.trans (f.mono k.B.size),k.h0,k.r0,k.ne⟩
theorem W31.setTyp {h:IH} {hb rb:Nat} {w0 w:World} (k:W31 h hb rb w0 w) (x:Int):W31 {h with typ:=x} hb rb w0 (w.setCell ⟨hb,0,none⟩ (.int .u8 x)):=by
 obtain⟨z,z1,z2⟩:=k.Z;exact⟨k.S.setTyp x,⟨z,z1,(C0 _ (Ne.symm k.ne)).trans z2⟩,k.B.setCell (p:=⟨hb,0,none⟩) k.h0 _,k.h0,k.r0,k.ne⟩
theorem W31.give {h:IH} {hb rb:Nat} {w0 w:World} (k:W31 h hb rb w0 w) (hr:h.recs.oneCell'=true):∃w',(storeVar 31 ⟨rb,0,none⟩ (.agg h.scells.toArray)).run Tryz.prog w= .ok () w'/\w'.heap[rb]?=some (.cells h.scells.toArray 31 (0,0))/\Below w0.heap.size w0 w':=by
 obtain⟨z,z1,z2⟩:=k.Z;obtain⟨w',h1,h2,-,h4,-⟩:=A1X h hr z1 z2;exact⟨w',h1,h2,h4 _ _ k.B k.r0⟩
theorem W31.fin {h2 h3:IH} {hb rb:Nat} {w0 w:World} (k:W31 h2 hb rb w0 w) (hr:h2.recs.oneCell'=true) (e:h2=h3):∃w',(storeVar 31 ⟨rb,0,none⟩ (.agg h2.scells.toArray)).run Tryz.prog w= .ok () w'/\w'.heap[rb]?=some (.cells h2.scells.toArray 31 (0,0))/\B4r h3 w0 (.returned (.agg h2.scells.toArray)) w':=by
 obtain⟨w',g1,g2,g3⟩:=k.give hr;exact⟨w',g1,g2,by rw[e],g3⟩
def IH.sprom (h:IH):IH:= {h with typ:=if h.typ=0 then(if A0V h.name then 53 else 48) else h.typ}
theorem A1W (h:IH) (hr:h.recs.oneCell'=true) (hn:h.name.length<4611686018427387904) (w:World):Calls Tryz.prog 26 #[.agg h.scells.toArray] w (B4r h.sprom w):=by
 go_enter Tryz.func26,Tryz.ntmps26
 go_upto_region 1 with fail
 obtain⟨wA,AC⟩:∃wA,wA=(w.alloc (.cells h.scells.toArray 31)).alloc (.cells #[.int .u8 0,.string {data:=#[]},.string {data:=#[]},.int .i64 0,.int .i64 0,.int .i64 0,.int .i64 0,.string {data:=#[]},.string {data:=#[]},.int .i64 0,.int .i64 0,.bool false,.bool false,.int .i64 0,.int .i64 0,.int .i64 0,.int .i64 0,.int .i64 0,.int .i64 0,.slice none 0 0,.int .i64 0] 31):=⟨_,rfl⟩;rw[<-AC];have KA:W31 h w.heap.size (w.heap.size+1) w wA:=by rw[AC];exact W31.new h w _ rfl
 clear AC;have ct:=KA.S.cell 0 (.int .u8 h.typ) rfl;by_cases ht:h.typ=0
 ·have cn:=(KA.setTyp 48).S.cell 1 (str h.name) rfl
  have hz:=KA.S.hz 0;have AB:=A4F h.name (wA.setCell ⟨w.heap.size,0,none⟩ (.int .u8 48)) hn;have K2:=A0 (KA.setTyp 48);cases hs:A0V h.name with
  |true=>
   rw[hs] at AB;have AD:=K2.out.S.hz 0;have K3:=A0 (K2.out.setTyp 53);obtain⟨w3,g1,g2,g3⟩:=K3.out.fin (h3:=h.sprom) (by exact hr) (by rw[IH.sprom,if_pos ht,if_pos hs]);have AA:=A0 K3.out.S.load;have G1:=A0 g1;have G2:=A0 g2;have G3:=A0 g3;clear g1 g2 g3 hs KA;go_wp2_with (first|(go_at_call 53;refine AB.mono ?_;rintro e wx ⟨rfl,rfl⟩)|(refine D3 rfl 31 _ rfl ⟨w.heap.size,0,none⟩ rfl _ AA.out ?_)|(refine E6 rfl 31 _ _ rfl ⟨w.heap.size+1,0,none⟩ rfl _ rfl w3 G1.out ?_)|fail)
   exact B0I (w.heap.size+1) _ rfl w3 rfl rfl rfl G2.out G3.out
  |false=>
   rw[hs] at AB;obtain⟨w3,g1,g2,g3⟩:=K2.out.fin (h3:=h.sprom) (by exact hr) (by rw[IH.sprom,if_pos ht,hs];rfl);have AA:=A0 K2.out.S.load;have G1:=A0 g1;have G2:=A0 g2;have G3:=A0 g3;clear g1 g2 g3 hs KA;go_wp2_with (first|(go_at_call 53;refine AB.mono ?_;rintro e wx ⟨rfl,rfl⟩)|(refine D3 rfl 31 _ rfl ⟨w.heap.size,0,none⟩ rfl _ AA.out ?_)|(refine E6 rfl 31 _ _ rfl ⟨w.heap.size+1,0,none⟩ rfl _ rfl w3 G1.out ?_)|fail)
   exact B0I (w.heap.size+1) _ rfl w3 rfl rfl rfl G2.out G3.out
 ·have KK:=A0 KA
  obtain⟨w3,g1,g2,g3⟩:=KK.out.fin (h3:=h.sprom) (by exact hr) (by rw[IH.sprom,if_neg ht]);have AA:=A0 KK.out.S.load;have G1:=A0 g1;have G2:=A0 g2;have G3:=A0 g3;clear g1 g2 g3 KA;go_wp2_with (first|(refine D3 rfl 31 _ rfl ⟨w.heap.size,0,none⟩ rfl _ AA.out ?_)|(refine E6 rfl 31 _ _ rfl ⟨w.heap.size+1,0,none⟩ rfl _ rfl w3 G1.out ?_)|fail)
  exact B0I (w.heap.size+1) _ rfl w3 rfl rfl rfl G2.out G3.out
def L1:List (List UInt8×List UInt8)->Nat
 | []=>0
 |p::L=>p.1.length+p.2.length+24+L1 L
theorem A6N (L M:List (List UInt8×List UInt8)):L1 (L++M)=L1 L+L1 M:=by
 induction L with
 |nil=>simp[L1]
 |cons p L ih=>simp only[List.cons_append,L1,ih];omega
theorem A9U (L:List (List UInt8×List UInt8)) (k:Nat) (hk:k<L.length):L1 (L.take (k+1))=L1 (L.take k)+(L[k].1.length+L[k].2.length+24):=by
 rw[zU hk,A6N];rfl
theorem A2W (L:List (List UInt8×List UInt8)) (k:Nat):L1 (L.take k)<=L1 L:=by
 conv=>rhs;rw[<-List.take_append_drop k L,A6N]
 omega
def A0t (h:IH) (L:List (List UInt8×List UInt8)):Prop:=h.name.length+h.link.length+h.user.length+h.group.length+L1 L<=524288/\0<=h.fmt/\h.fmt<=3/\O9 h.ms h.mn/\(h.hasA=true->O9 h.ats h.atn)/\(h.hasC=true->O9 h.cts h.ctn)
def B0R (hb:Nat) (h:IH) (w0 w:World):Prop:=SB hb h w/\Below hb w0 w/\hb<w.heap.size
theorem B0R.step {hb:Nat} {h:IH} {w0 w w':World} (k:B0R hb h w0 w) (f:Below w.heap.size w w'):B0R hb h w0 w':=
 ⟨k.1.below f k.2.2,k.2.1.trans (f.mono (QA k.2.2)),zL k.2.2 f.size⟩
theorem A4G (h:IH) (L:List (List UInt8×List UInt8)) (w:World) (hL:N5 w h.recs L) (AO:h.name.length+h.link.length+h.user.length+h.group.length+L1 L<=2305843009213693952):Calls Tryz.prog 25 #[.agg h.scells.toArray] w (B1g (A0t h L) w):=by
 have a1:SB w.heap.size h (w.alloc (.cells h.scells.toArray 31)):=zI w _;have hR:B0R w.heap.size h w (w.alloc (.cells h.scells.toArray 31)):=⟨a1,(zD _ w).alloc (zB _) _,A8 a1⟩;obtain⟨p,c,hv,Ad⟩:=hL
 have Az:L.length<=L1 L:=by
  clear Ad hv AO;induction L with
  |nil=>simp
  |cons q L ih=>simp only[List.length_cons,L1];omega
 have n1:=a1.cell 1 (str h.name) rfl;have n2:=a1.cell 2 (str h.link) rfl;have n3:=a1.cell 7 (str h.user) rfl;have n4:=a1.cell 8 (str h.group) rfl;have n5:=a1.cell 19 (.slice p L.length c) (by rw[<-hv];rfl);have HR:=A0 hR;have Ap:=A0 Ad;have HV:=A0 hv;clear a1 hR Ad hv;go_enter Tryz.func25,Tryz.ntmps25
 go_upto_region 1 with fail
 obtain⟨wA,Ao⟩:∃wA,wA=w.alloc (.cells h.scells.toArray 31):=⟨_,rfl⟩;rw[<-Ao] at HR n1 n2 n3 n4 n5⊢;clear Ao;obtain⟨hb,Ae⟩:∃hb,hb=w.heap.size:=⟨_,rfl⟩;rw[<-Ae] at HR n1 n2 n3 n4 n5⊢;have AC:=A0 Ae;clear Ae;obtain⟨l0,Af⟩:∃l0,l0=h.name.length+h.link.length+h.user.length+h.group.length:=⟨_,rfl⟩;have Ac:h.name.length+h.link.length+h.user.length+h.group.length<=2305843009213693952:=by omega
 rw[<-Af] at AO;have E1:Hid ((h.name.length:Int)+h.link.length+h.user.length+h.group.length=l0):=A0 (by omega);have Aq:=A0 Af;clear Af;go_wp2_with fail
 go_loopw [24,3] (λs24 s3 wr=>∃k:Nat,s24= .int .i64 k/\s3= .int .i64 ((l0+L1 (L.take k):Nat):Int)/\k<=L.length/\Hid (B0R hb h w wr)) (λs24 _ _=>L.length- (intOf s24).toNat)
 case atStart=>exact⟨0,rfl,by rw[List.take_zero];show _=Value.int .i64 ((l0+0:Nat):Int);rw[Nat.add_zero,<-E1.out],zW _,HR⟩
 case round=>
  obtain⟨k,rfl,rfl,hk,hS⟩:=hrel;clear n1 n2 n3 n4 n5 HR Ac;have Ax:=A2W L k;by_cases Al:k<L.length
  ·obtain⟨rg,ro,rfl,BD,k1,k2⟩:=Ap.out k Al
   have ck:wr.cell? ⟨rg,ro+k*2,none⟩=some (str L[k].1):=(hS.out.2.1.cell (p:=⟨rg,ro+k*2,none⟩) (by have:=AC.out;show rg<hb;omega)).trans k1;have cv:wr.cell? ⟨rg,ro+k*2+1,none⟩=some (str L[k].2):=(hS.out.2.1.cell (p:=⟨rg,ro+k*2+1,none⟩) (by have:=AC.out;show rg<hb;omega)).trans k2;have ht:=A9U L k Al;have Ay:=A2W L (k+1);clear k1 k2;generalize L[k].1=kk at*;generalize L[k].2=vv at*;rw[ht] at Ay;have HT:=A0 ht;generalize Ab:L1 (L.take k)=r0 at*;clear ht Ab;have Aw:Hid (∀o,B0R hb h w (wr.alloc o)):=A0 λo=>hS.out.step ((zD _ wr).alloc (zB _) o);go_wp2_with fail
   go_roundw
   case rel=>exact⟨k+1,by go_num,by rw[HT.out];go_num,by omega,A0 (Aw.out _)⟩
   case measure=>simp[intOf];omega
  ·obtain rfl:k=L.length:=by omega
   rw[List.take_length] at Ax⊢;have HK:Hid (l0+L1 L<=524288->0<=h.fmt->h.fmt<=3->O9 h.ms h.mn->(h.hasA=true->O9 h.ats h.atn)->(h.hasC=true->O9 h.cts h.ctn)->A0t h L):=A0 λk1 k2 k3 k4 k5 k6=>⟨by rw[<-Aq.out];exact k1,k2,k3,k4,k5,k6⟩;have BB:Hid (Below w.heap.size w wr):=A0 (by rw[<-AC.out];exact hS.out.2.1);have c20:=hS.out.1.cell 20 (.int .i64 h.fmt) rfl;generalize Ab:L1 L=r0 at*;clear Ab;by_cases hn: (524288:Int)< ((l0+r0:Nat):Int)
   ·go_wp2_with fail
    go_ret
    exact⟨true,rfl,BB.out,λh=>by cases h⟩
   ·by_cases BA:h.fmt<0
    ·go_wp2_with fail
     go_ret
     exact⟨true,rfl,BB.out,λh=>by cases h⟩
    ·by_cases BC:3<h.fmt
     ·go_wp2_with fail
      go_ret
      exact⟨true,rfl,BB.out,λh=>by cases h⟩
     ·have HN:Hid (l0+r0<=524288/\0<=h.fmt/\h.fmt<=3):=A0 (by omega)
      have Ar:=hS.out.1.cell 9 (.int .i64 h.ms) rfl;have Au:=hS.out.1.cell 10 (.int .i64 h.mn) rfl;have AR:=hS.out.1.cell 11 (.bool h.hasA) rfl;have AS:=hS.out.1.cell 12 (.bool h.hasC) rfl;have AT:=hS.out.1.cell 13 (.int .i64 h.ats) rfl;have AX:=hS.out.1.cell 14 (.int .i64 h.atn) rfl;have AV:=hS.out.1.cell 15 (.int .i64 h.cts) rfl;have AZ:=hS.out.1.cell 16 (.int .i64 h.ctn) rfl;go_wp2_with fail
      refine(A4b h.ms h.mn wr).mono ?_;rintro e w1 ⟨b1,rfl,Aj,Am⟩;clear Ar Au AR AS AT AX AV AZ;have S1:=A0 (hS.out.step Aj);have AP:=A0 Am;clear Aj Am BB;have BB:Hid (Below w.heap.size w w1):=A0 (by rw[<-AC.out];exact S1.out.2.1);have Ah:=S1.out.1.cell 9 (.int .i64 h.ms) rfl;have Ai:=S1.out.1.cell 10 (.int .i64 h.mn) rfl;have AA:=S1.out.1.cell 11 (.bool h.hasA) rfl;have AB:=S1.out.1.cell 12 (.bool h.hasC) rfl;have AG:=S1.out.1.cell 13 (.int .i64 h.ats) rfl;have AI:=S1.out.1.cell 14 (.int .i64 h.atn) rfl;have AH:=S1.out.1.cell 15 (.int .i64 h.cts) rfl;have AJ:=S1.out.1.cell 16 (.int .i64 h.ctn) rfl;cases b1 with
      |true=>
       go_wp2_with fail
       go_ret
       exact⟨true,rfl,BB.out,λh=>by cases h⟩
      |false=>
       cases ha:h.hasA with
       |false=>
        rw[ha] at AA;cases hc:h.hasC with
        |false=>
         rw[hc] at AB;go_wp2_with fail
         go_ret
         exact⟨_,rfl,BB.out,λ_=>HK.out HN.out.1 HN.out.2.1 HN.out.2.2 (AP.out (by trivial)) (λe=>by rw[ha] at e;cases e) (λe=>by rw[hc] at e;cases e)⟩
        |true=>
         rw[hc] at AB;go_wp2_with fail
         refine(A4b h.cts h.ctn w1).mono ?_;rintro e w9 ⟨b9,rfl,AL,AM⟩;clear Ah Ai AA AB AG AI AH AJ;have S9:=A0 (S1.out.step AL);have AQ:=A0 AM;clear AL AM BB;have BB:Hid (Below w.heap.size w w9):=A0 (by rw[<-AC.out];exact S9.out.2.1);cases b9 with
         |true=>
          go_wp2_with fail
          go_ret
          exact⟨true,rfl,BB.out,λh=>by cases h⟩
         |false=>
          go_wp2_with fail
          go_ret
          exact⟨_,rfl,BB.out,λ_=>HK.out HN.out.1 HN.out.2.1 HN.out.2.2 (AP.out (by trivial)) (λe=>by rw[ha] at e;cases e) (λ_=>AQ.out (by trivial))⟩
       |true=>
        rw[ha] at AA;go_wp2_with fail
        refine(A4b h.ats h.atn w1).mono ?_;rintro e w2 ⟨b2,rfl,Ak,An⟩;clear Ah Ai AA AB AG AI AH AJ;have S2:=A0 (S1.out.step Ak);have Ag:=A0 An;clear Ak An BB;have BB:Hid (Below w.heap.size w w2):=A0 (by rw[<-AC.out];exact S2.out.2.1);have As:=S2.out.1.cell 9 (.int .i64 h.ms) rfl;have Av:=S2.out.1.cell 10 (.int .i64 h.mn) rfl;have AE:=S2.out.1.cell 11 (.bool h.hasA) rfl;have AD:=S2.out.1.cell 12 (.bool h.hasC) rfl;have AU:=S2.out.1.cell 13 (.int .i64 h.ats) rfl;have AY:=S2.out.1.cell 14 (.int .i64 h.atn) rfl;have AW:=S2.out.1.cell 15 (.int .i64 h.cts) rfl;have Aa:=S2.out.1.cell 16 (.int .i64 h.ctn) rfl;rw[ha] at AE;cases b2 with
        |true=>
         go_wp2_with fail
         go_ret
         exact⟨true,rfl,BB.out,λh=>by cases h⟩
        |false=>
         cases hc:h.hasC with
         |false=>
          rw[hc] at AD;go_wp2_with fail
          go_ret
          exact⟨_,rfl,BB.out,λ_=>HK.out HN.out.1 HN.out.2.1 HN.out.2.2 (AP.out (by trivial)) (λ_=>Ag.out (by trivial)) (λe=>by rw[hc] at e;cases e)⟩
         |true=>
          rw[hc] at AD;go_wp2_with fail
          refine(A4b h.cts h.ctn w2).mono ?_;rintro e w9 ⟨b9,rfl,AL,AM⟩;clear As Av AE AD AU AY AW Aa;have S9:=A0 (S2.out.step AL);have AQ:=A0 AM;clear AL AM BB;have BB:Hid (Below w.heap.size w w9):=A0 (by rw[<-AC.out];exact S9.out.2.1);cases b9 with
          |true=>
           go_wp2_with fail
           go_ret
           exact⟨true,rfl,BB.out,λh=>by cases h⟩
          |false=>
           go_wp2_with fail
           go_ret
           exact⟨_,rfl,BB.out,λ_=>HK.out HN.out.1 HN.out.2.1 HN.out.2.2 (AP.out (by trivial)) (λ_=>Ag.out (by trivial)) (λ_=>AQ.out (by trivial))⟩
end Go.Proofs.YtkanmkcojlefbaaGreatDoor
