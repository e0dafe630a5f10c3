/-
  Part of the proof; holds the texts Hs1.
-/
import Derived.Test.YtkanmkcojlefbaaGreatDoorM45
set_option maxHeartbeats 4000000
set_option maxRecDepth 100000
set_option linter.unusedSimpArgs false
set_option linter.unusedVariables false
namespace Go.Proofs.YtkanmkcojlefbaaGreatDoor
open Go.RowKit
def A0g (L:List (List UInt8×List UInt8)) (key:List UInt8):Option (List UInt8):=(L.reverse.find? (λp=>p.1==key)).map (·.2)
theorem A8t (L:List (List UInt8×List UInt8)) (key:List UInt8) (k:Nat) (hk:k<L.length):A0g (L.take (k+1)) key=if L[k].1=key then some L[k].2 else A0g (L.take k) key:=by
 rw[A0g,List.take_succ_eq_append_getElem hk,List.reverse_append,List.reverse_singleton,List.singleton_append,List.find?_cons];by_cases h:L[k].1=key
 ·simp[h]
 ·have e: (L[k].1==key)=false:=by simpa using h
  simp[h,e,A0g]
def B3k (L:List (List UInt8×List UInt8)) (key:List UInt8) (w:World) (e:Ending) (w':World):Prop:=e= .returned (.tuple #[str ((A0g L key).getD []),.bool (A0g L key).isSome])/\Below w.heap.size w w'
theorem B3N (v:Value) (L:List (List UInt8×List UInt8)) (key:List UInt8) (w:World) (hR:N5 w v L) (hL:L.length<4611686018427387904):Calls Tryz.prog 76 #[v,str key] w (B3k L key w):=by
 obtain⟨p,c,rfl,AB⟩:=hR;have AE:=A0 AB;clear AB;go_enter Tryz.func76,Tryz.ntmps76
 go_wp2_with fail
 go_loopw [12,6,7] (λs12 s6 s7 wr=>∃ (k:Nat) (x:Option (List UInt8)),s12= .int .i64 k/\k<=L.length/\s6=str (x.getD [])/\s7= .bool x.isSome/\Hid (A0g (L.take k) key=x/\Below w.heap.size w wr)) (λs12 _ _ _=>L.length- (intOf s12).toNat)
 case atStart=>exact⟨0,none,rfl,Nat.zero_le _,rfl,rfl,A0 ⟨rfl,Below.refl _ _⟩⟩
 case round=>
  obtain⟨k,x,rfl,hk,rfl,rfl,HS⟩:=hrel;by_cases AC:k<L.length
  ·have AA: (k:Int)<L.length:=by omega
   obtain⟨rg,ro,rfl,AD,k1,k2⟩:=AE.out k AC;have ck:wr.cell? ⟨rg,ro+k*2,none⟩=some (str L[k].1):=(HS.out.2.cell (p:=⟨rg,ro+k*2,none⟩) AD).trans k1;have cv:wr.cell? ⟨rg,ro+k*2+1,none⟩=some (str L[k].2):=(HS.out.2.cell (p:=⟨rg,ro+k*2+1,none⟩) AD).trans k2;have HT:=A0 (A8t L key k AC);have HB:Hid (∀o,Below w.heap.size w (wr.alloc o)):=A0 λo=>HS.out.2.alloc HS.out.2.size o;have HX:=A0 HS.out.1;clear k1 k2 HS;generalize L[k].1=kk at*;generalize L[k].2=vv at*;by_cases he:kk=key
   ·have HE:=A0 he
    have e1: (kk==key)=true:=by simpa using he
    clear he;go_wp2_with fail
    go_roundw
    case rel=>exact⟨k+1,some vv,by go_num,by omega,rfl,rfl,A0 ⟨by rw[HT.out,if_pos HE.out],HB.out _⟩⟩
    case measure=>first|(simp[intOf];done)|(simp[intOf];omega)
   ·have HE:=A0 he
    have e1: (kk==key)=false:=by simpa using he
    clear he;go_wp2_with fail
    go_roundw
    case rel=>exact⟨k+1,x,by go_num,by omega,rfl,rfl,A0 ⟨by rw[HT.out,if_neg HE.out,HX.out],HB.out _⟩⟩
    case measure=>first|(simp[intOf];done)|(simp[intOf];omega)
  ·have AA:¬(k:Int)<L.length:=by omega
   have HF:Hid (A0g L key=x):=A0 (by have:=HS.out.1;rwa [List.take_of_length_le (by omega)] at this);have HB:=A0 HS.out.2;clear HS;go_wp2_with fail
   go_ret2
   exact⟨by rw[HF.out];rfl,HB.out⟩
def B1j (L M:List (List UInt8×List UInt8)):Prop:=∀ (i:Nat) (hi:i<M.length),(∀ (j:Nat) (hj:j<M.length),i<j->M[j].1≠M[i].1)->A0g L M[i].1=some M[i].2
theorem B4d (v:Value) (L M:List (List UInt8×List UInt8)) (q:Option Addr) (cc:Nat) (w:World) (hR:N5 w v L) (hM:N5 w (.slice q M.length cc) M) (Ad:M.length<=cc) (hL:L.length<4611686018427387904) (Ac:M.length<4611686018427387904) (Ae:cc<=9223372036854775807) (hO:B1j L M):
  Calls Tryz.prog 39 #[v,.slice q M.length cc] w λe w'=>e= .returned (.bool true)/\Below w.heap.size w w':=by
 have HR:=A0 hR;have HO:=A0 hO;obtain⟨p,c,hv,AR⟩:=hM;injection hv with h1 h2 h3
 subst h1;subst h3;have AO:=A0 AR;clear hR hO AR h2;have HF:=A0 (fun(wx:World) (key:List UInt8) (hb:Below w.heap.size w wx)=>B3N v L key wx (N5.up HR.out hb) hL);go_enter Tryz.func39,Tryz.ntmps39
 go_wp2_with fail
 go_loopw [14] (λs14 wr=>∃k:Nat,s14= .int .i64 k/\k<=M.length/\Hid (Below w.heap.size w wr)) (λs14 _=>M.length- (intOf s14).toNat)
 case atStart=>exact⟨0,rfl,Nat.zero_le _,A0 (Below.refl _ _)⟩
 case round=>
  obtain⟨k,rfl,hk,HB⟩:=hrel;by_cases AS:k<M.length
  ·have AL: (k:Int)<M.length:=by omega
   obtain⟨rg,ro,rfl,AD,k1,k2⟩:=AO.out k AS;have ck:wr.cell? ⟨rg,ro+k*2,none⟩=some (str M[k].1):=(HB.out.cell (p:=⟨rg,ro+k*2,none⟩) AD).trans k1;have cv:wr.cell? ⟨rg,ro+k*2+1,none⟩=some (str M[k].2):=(HB.out.cell (p:=⟨rg,ro+k*2+1,none⟩) AD).trans k2;have AX:Hid ((∀ (j:Nat) (hj:j<M.length),k<j->M[j].1≠M[k].1)->A0g L M[k].1=some M[k].2):=A0 (HO.out k AS);clear k1 k2;generalize M[k].1=kk at*;generalize M[k].2=vv at*;have Ah:IntKind.i64.wrap ((k:Int)+1)=((k+1:Nat):Int):=by rw[IntWalk.i64_in _ (by omega)];omega
   have HG:Hid ((wr.alloc (.cells #[str kk,str vv] 108)).heap[wr.heap.size]?=some (.cells #[str kk,str vv] 108 (0,0))/\Below w.heap.size w (wr.alloc (.cells #[str kk,str vv] 108))):=A0 ⟨heap_alloc_new wr _,HB.out.alloc HB.out.size _⟩;have AV:Hid (w.heap.size<=wr.heap.size):=A0 HB.out.size;obtain⟨g,hg⟩:∃g,g=wr.heap.size:=⟨_,rfl⟩;obtain⟨wA,AM⟩:∃wA,wA=wr.alloc (.cells #[str kk,str vv] 108):=⟨_,rfl⟩;rw[<-AM,<-hg] at HG;rw[<-hg] at AV;by_cases AH:cc=k+1
   all_goals
    first|subst AH|skip
    go_upto_region 4 with fail
    rw[<-AM,<-hg];have HH:=A0 hg;clear AM hg ck cv HB;go_wp2_with fail
    go_loopw [24,7] (λs24 s7 wi=>∃ (j:Nat) (b:Bool),s24= .int .i64 j/\s7= .bool b/\j<=M.length- (k+1)/\Hid ((wi.heap[g]?=some (.cells #[str kk,str vv] 108 (0,0))/\Below w.heap.size w wi)/\(b=true->∀ (i:Nat) (hi:i<M.length),k<i->i<k+1+j->M[i].1≠kk))) (λs24 _ _=>M.length- (k+1)- (intOf s24).toNat)
    case atStart=>exact⟨0,true,rfl,rfl,Nat.zero_le _,A0 ⟨HG.out,λ_ i _ h1 h2=>by omega⟩⟩
    case round=>
     obtain⟨j,b,rfl,rfl,hj,HI⟩:=hrel;have HA:=A0 HI.out.1.1;have AA:=A0 HI.out.1.2;have y0:wr.cell? ⟨g,0,none⟩=some (str kk):=by rw[Lib.cell_of_heap HA.out 0];rfl
     have y1:wr.cell? ⟨g,1,none⟩=some (str vv):=by rw[Lib.cell_of_heap HA.out 1];rfl
     by_cases Af:j<M.length- (k+1)
     ·have AJ: (j:Int)< ((M.length- (k+1):Nat):Int):=by omega
      have AZ:k+1+j<M.length:=by omega
      obtain⟨Aa,Ab,e2,-,k1,k2⟩:=AO.out (k+1+j) AZ;obtain⟨rfl,rfl⟩:rg=Aa/\ro=Ab:=by injection e2 with e2;injection e2 with e3 e4;exact⟨e3,e4⟩
      have ck:wr.cell? ⟨rg,ro+(k+1)*2+j*2,none⟩=some (str M[k+1+j].1):=by
       rw[show ro+(k+1)*2+j*2=ro+(k+1+j)*2 by omega];exact(AA.out.cell (p:=⟨rg,ro+(k+1+j)*2,none⟩) AD).trans k1
      have cv:wr.cell? ⟨rg,ro+(k+1)*2+j*2+1,none⟩=some (str M[k+1+j].2):=by
       rw[show ro+(k+1)*2+j*2=ro+(k+1+j)*2 by omega];exact(AA.out.cell (p:=⟨rg,ro+(k+1+j)*2+1,none⟩) AD).trans k2
      have HE:Hid (∀ (b2:Bool),(b2=true->b=true/\M[k+1+j].1≠kk)->b2=true->∀ (i:Nat) (hi:i<M.length),k<i->i<k+1+(j+1)->M[i].1≠kk):=A0 λb2 AQ e i hi h1 h2=>by
       by_cases AY:i=k+1+j
       ·subst AY;exact(AQ e).2
       ·exact HI.out.2 (AQ e).1 i hi h1 (by omega)
      have AI:g<wr.heap.size:=A8 HA.out;have HN:Hid (∀o,(wr.alloc o).heap[g]?=some (.cells #[str kk,str vv] 108 (0,0))/\Below w.heap.size w (wr.alloc o)):=A0 λo=>⟨(Below.heap_alloc _ _ _ AI).trans HA.out,AA.out.alloc AA.out.size o⟩;have AU:=A0 AI;clear k1 k2 e2 HI HA AA AI;generalize M[k+1+j].1=k3 at*;generalize M[k+1+j].2=v3 at*;have Ag:g≠wr.heap.size:=Nat.ne_of_lt AU.out;cases b with
      |false=>
       go_wp2_with fail
       all_goals go_roundw
       all_goals first|exact⟨j+1,false,by go_num,rfl,by omega,A0 ⟨HN.out _,HE.out false (λe=>absurd e (by decide))⟩⟩|(simp[intOf];done)|(simp[intOf];omega)
      |true=>
       have Ai:∀o,(wr.alloc o).cell? ⟨g,0,none⟩=some (str kk):=λo=>by rw[Lib.cell_of_heap (HN.out o).1 0];rfl
       by_cases AB:k3=kk
       ·have e1: (k3==kk)=true:=by simpa using AB
        have e2: (k3 !=kk)=false:=by simpa using AB
        clear AB;go_wp2_with fail
        all_goals go_roundw
        all_goals first|exact⟨j+1,false,by go_num,rfl,by omega,A0 ⟨HN.out _,HE.out false (λe=>absurd e (by decide))⟩⟩|(simp[intOf];done)|(simp[intOf];omega)
       ·have e1: (k3==kk)=false:=by simpa using AB
        have e2: (k3 !=kk)=true:=by simpa using AB
        have AW:=A0 AB;clear AB;go_wp2_with fail
        all_goals go_roundw
        all_goals first|exact⟨j+1,true,by go_num,rfl,by omega,A0 ⟨HN.out _,HE.out true (λ_=>⟨rfl,AW.out⟩)⟩⟩|(simp[intOf];done)|(simp[intOf];omega)
     ·have AJ:¬(j:Int)< ((M.length- (k+1):Nat):Int):=by omega
      have HL:Hid (b=true->A0g L kk=some vv):=A0 λe=>AX.out (λi hi h1=>HI.out.2 e i hi h1 (by omega));have AG:=A0 (HF.out wr kk AA.out);clear HI;cases b with
      |false=>
       go_wp2_with fail
       refine AG.out.mono ?_;rintro e w5 ⟨rfl,AC⟩;have AE:=A0 (AA.out.trans (AC.mono AA.out.size));clear AC y0 y1;go_wp2_with fail
       go_roundw
       case rel=>exact⟨k+1,by go_num,by omega,AE⟩
       case measure=>first|(simp[intOf];done)|(simp[intOf];omega)
      |true=>
       have AT:Hid (A0g L kk=some vv):=A0 (HL.out rfl);have AP:Hid (Calls Tryz.prog 76 #[v,str kk] wr λe w'=>e= .returned (.tuple #[str vv,.bool true])/\Below wr.heap.size wr w'):=A0 (AG.out.mono λe w' h=>⟨by rw[h.1,AT.out];rfl,h.2⟩);clear AG HL;go_wp2_with fail
       refine AP.out.mono ?_;rintro e w5 ⟨rfl,AC⟩;have AE:=A0 (AA.out.trans (AC.mono AA.out.size));have z1:w5.cell? ⟨g,1,none⟩=some (str vv):=(AC.cell (p:=⟨g,1,none⟩) (A8 HA.out)).trans y1;clear AC y0 y1 AP;go_wp2_with fail
       go_roundw
       case rel=>exact⟨k+1,by go_num,by omega,AE⟩
       case measure=>first|(simp[intOf];done)|(simp[intOf];omega)
  ·have AL:¬(k:Int)<M.length:=by omega
   go_wp2_with fail
   go_ret
   exact⟨rfl,HB.out⟩
end Go.Proofs.YtkanmkcojlefbaaGreatDoor
