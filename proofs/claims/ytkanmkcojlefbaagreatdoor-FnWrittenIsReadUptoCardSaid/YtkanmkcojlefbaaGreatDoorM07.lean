/-
  Part of the proof; holds the texts Split.
-/
import Derived.Test.YtkanmkcojlefbaaGreatDoorM04
set_option maxRecDepth 100000
set_option linter.unusedSimpArgs false
set_option linter.unusedVariables false
namespace Go.Proofs.YtkanmkcojlefbaaGreatDoor
open Go.RowKit
theorem A1R (l:List UInt8):Lib.lastIndex l [47]<l.length/\-1<=Lib.lastIndex l [47]:=by
 have AA:∀k,-1<=Lib.lastOcc l [47] k/\Lib.lastOcc l [47] k< (k:Int):=by
  intro k;induction k with
  |zero=>simp[Lib.lastOcc]
  |succ k ih=>
   by_cases h:Lib.occAt l [47] k=true
   ·rw[Lib.lastOcc_hit _ _ _ h];omega
   ·rw[Lib.lastOcc_miss _ _ _ (by simpa using h)];omega
 rw[Lib.lastIndex];split
 ·rename_i h
  have:=AA (l.length- [47].length+1);simp at this h;simp;omega
 ·omega
theorem A8U (w:World) (l:List UInt8) (hl:l.length<=100):
  Calls Tryz.prog 97 #[str l] w λe w'=>e= .returned (.tuple #[str [],str [],.bool false])/\Below w.heap.size w w':=by
 have h1: (l.length:Int)<=100:=by omega
 go_enter Tryz.func97,Tryz.ntmps97
 go_wp2
 go_ret3
 exact⟨rfl,zD _ w⟩
theorem A9c (w:World) (l:List UInt8) (hl:100<l.length) (AA:l.length<=1048576) (ha:D6 l=false):
  Calls Tryz.prog 97 #[str l] w λe w'=>e= .returned (.tuple #[str [],str [],.bool false])/\Below w.heap.size w w':=by
 have h1:¬(l.length:Int)<=100:=by omega
 have h:=J8 l w (by omega);rw[ha] at h;go_enter Tryz.func97,Tryz.ntmps97
 go_wp2_with fail
 refine h.mono ?_;rintro e w1 ⟨rfl,hb⟩;go_wp2_with fail
 go_ret3
 exact⟨rfl,hb⟩
theorem A9e (w:World) (l:List UInt8) (hl:100<l.length) (AM:l.length<=1048576) (ha:D6 l=true) (AE:156<l.length):
  Calls Tryz.prog 97 #[str l] w (U8 l w):=by
 have h1:¬(l.length:Int)<=100:=by omega
 have h2: (156:Int)<l.length:=by omega
 have h:=J8 l w (by omega);rw[ha] at h;have hc:N6 l=156:=by rw[N6,if_pos AE]
 have AD:=λw'=>Tryz.strings_LastIndex ⟨(l.take 156).toArray⟩ ⟨[47].toArray⟩ (by show(l.take 156).toArray.size<_;simp;omega) w';have AG:M4 l=Lib.lastIndex (l.take 156) [47]:=by rw[M4,hc]
 simp only at AD;rw[<-AG] at AD;have AH:=A1R (l.take 156);rw[<-AG] at AH;have AC:J2 l=decide (0<M4 l/\(l.length:Int)-M4 l-1<=100/\(l.length:Int)-M4 l-1≠0/\M4 l<=155):=by rw[J2,ha,zY hl];rfl
 have e3: (⟨l.toArray⟩:ByteArray).extract 0 156=⟨(l.take 156).toArray⟩:=by rw[L3];simp
 simp only[List.length_take] at AH;generalize hi:M4 l=i at*;go_enter Tryz.func97,Tryz.ntmps97
 go_wp2_with fail
 refine h.mono ?_;rintro e w1 ⟨rfl,hb⟩;go_wp2_with fail
 refine(AD _).mono ?_;rintro e w2 ⟨rfl,rfl⟩;have AO:IntKind.i64.wrap ((l.length:Int)-i)=(l.length:Int)-i:=zQ _ (by omega);have AP:IntKind.i64.wrap ((l.length:Int)-i-1)=(l.length:Int)-i-1:=zQ _ (by omega);have Hb:=A0 hb;have AL:=AH;clear h AD AG hb e3;by_cases AA:0<i/\(l.length:Int)-i-1<=100/\(l.length:Int)-i-1≠0/\i<=155
 ·rw[zY AA] at AC
  obtain⟨k,rfl⟩:∃k:Nat,i=k:=⟨i.toNat,by omega⟩;obtain⟨o1,o2,o3,o4⟩:=AA;have p1:¬(k:Int)<=0:=by omega
  have p2:¬(100:Int)< (l.length:Int)-k-1:=by omega
  have p3: ((l.length:Int)-k-1==0)=false:=by simp;omega
  have p4:¬(155:Int)<k:=by omega
  have p5: (k:Int)<=l.length:=by omega
  have p6: (k:Int)+1<=l.length:=by omega
  have p7:IntKind.i64.wrap ((k:Int)+1)=(k:Int)+1:=zQ _ (by omega);have AB:=A0 AC;have AI:=hi;clear AC hc o1 o2 o3 o4 hi;go_wp2_with fail
  go_quiet (fail)
  go_wp2_with fail
  go_ret3
  refine⟨?_,Hb.out.trans ⟨rfl,rfl,rfl,zB _,λ_ _=>rfl⟩⟩;rw[AB.out,if_pos rfl];have q2: (⟨l.toArray⟩:ByteArray).extract (k+1) l.length=⟨(l.drop (k+1)).toArray⟩:=by rw[L3,List.take_of_length_le (by simp)]
  have q1: (⟨l.toArray⟩:ByteArray).extract 0 k=⟨(l.take k).toArray⟩:=by rw[L3];simp
  simp[q1,q2,AI]
 ·rw[zV AA] at AC
  have AB:=A0 AC;clear AC hc hi;by_cases r1:i<=0
  ·clear AA
   go_wp2_with fail
   go_ret3
   exact⟨by rw[AB.out];rfl,Hb.out⟩
  ·by_cases r2: (100:Int)< (l.length:Int)-i-1
   ·clear AA
    go_wp2_with fail
    go_ret3
    exact⟨by rw[AB.out];rfl,Hb.out⟩
   ·by_cases r3: (l.length:Int)-i-1=0
    ·have AJ: ((l.length:Int)-i-1==0)=true:=by simp[r3]
     clear AA r3;go_wp2_with fail
     go_ret3
     exact⟨by rw[AB.out];rfl,Hb.out⟩
    ·have AJ: ((l.length:Int)-i-1==0)=false:=by simp[r3]
     have r4: (155:Int)<i:=by omega
     clear AA r3;go_wp2_with fail
     go_ret3
     exact⟨by rw[AB.out];rfl,Hb.out⟩
theorem A8V (w:World) (l:List UInt8) (hl:100<l.length) (AQ:l.length<=1048576) (ha:D6 l=true) (AI:l.length<=156) (m:Nat) (hm:l.length=m+1) (x:UInt8) (hx:l[m]?=some x) (hs:x.toNat=47):
  Calls Tryz.prog 97 #[str l] w (U8 l w):=by
 have h1:¬(l.length:Int)<=100:=by omega
 have h2:¬(156:Int)<l.length:=by omega
 have AR: (m:Int)<l.length:=by omega
 have AL: (l.length:Int)=(m:Int)+1:=by omega
 have AT:IntKind.i64.wrap ((l.length:Int)-1)=(m:Int):=by rw[zQ _ (by omega)];omega
 have AM:m< (⟨l.toArray⟩:ByteArray).size:=by rw[I6];omega
 have AU:=A7F l m x AM hx;have AS: ((x.toNat:Int)==47)=true:=by simp[hs]
 have AH:x=47\/x≠47:=by by_cases h:x=47<;>simp[h]
 have h:=J8 l w (by omega);rw[ha] at h;have hc:N6 l=m:=by rw[N6,if_neg (by omega),if_pos (by rw[hm];simp only[Nat.add_sub_cancel];rw[hx];congr 1;exact UInt8.toNat_inj.1 hs),hm];rfl
 have AD:=λw'=>Tryz.strings_LastIndex ⟨(l.take m).toArray⟩ ⟨[47].toArray⟩ (by show(l.take m).toArray.size<_;simp;omega) w';have AE:M4 l=Lib.lastIndex (l.take m) [47]:=by rw[M4,hc]
 simp only at AD;rw[<-AE] at AD;have AG:=A1R (l.take m);rw[<-AE] at AG;have AC:J2 l=decide (0<M4 l/\(l.length:Int)-M4 l-1<=100/\(l.length:Int)-M4 l-1≠0/\M4 l<=155):=by rw[J2,ha,zY hl];rfl
 have e3: (⟨l.toArray⟩:ByteArray).extract 0 m=⟨(l.take m).toArray⟩:=by rw[L3];simp
 simp only[List.length_take] at AG;clear AH hx;generalize hi:M4 l=i at*;clear hm AL;go_enter Tryz.func97,Tryz.ntmps97
 go_wp2_with fail
 refine h.mono ?_;rintro e w1 ⟨rfl,hb⟩;go_wp2_with fail
 refine(AD _).mono ?_;rintro e w2 ⟨rfl,rfl⟩;have AV:IntKind.i64.wrap ((l.length:Int)-i)=(l.length:Int)-i:=zQ _ (by omega);have AW:IntKind.i64.wrap ((l.length:Int)-i-1)=(l.length:Int)-i-1:=zQ _ (by omega);have Hb:=A0 hb;have AP:=AG;clear h AD AE hb e3;by_cases AA:0<i/\(l.length:Int)-i-1<=100/\(l.length:Int)-i-1≠0/\i<=155
 ·rw[zY AA] at AC
  obtain⟨k,rfl⟩:∃k:Nat,i=k:=⟨i.toNat,by omega⟩;obtain⟨o1,o2,o3,o4⟩:=AA;have p1:¬(k:Int)<=0:=by omega
  have p2:¬(100:Int)< (l.length:Int)-k-1:=by omega
  have p3: ((l.length:Int)-k-1==0)=false:=by simp;omega
  have p4:¬(155:Int)<k:=by omega
  have p5: (k:Int)<=l.length:=by omega
  have p6: (k:Int)+1<=l.length:=by omega
  have p7:IntKind.i64.wrap ((k:Int)+1)=(k:Int)+1:=zQ _ (by omega);have AB:=A0 AC;have AJ:=hi;clear AC hc o1 o2 o3 o4 hi;go_wp2_with fail
  go_quiet (fail)
  go_wp2_with fail
  go_ret3
  refine⟨?_,Hb.out.trans ⟨rfl,rfl,rfl,zB _,λ_ _=>rfl⟩⟩;rw[AB.out,if_pos rfl];have q2: (⟨l.toArray⟩:ByteArray).extract (k+1) l.length=⟨(l.drop (k+1)).toArray⟩:=by rw[L3,List.take_of_length_le (by simp)]
  have q1: (⟨l.toArray⟩:ByteArray).extract 0 k=⟨(l.take k).toArray⟩:=by rw[L3];simp
  simp[q1,q2,AJ]
 ·rw[zV AA] at AC
  have AB:=A0 AC;clear AC hc hi;by_cases r1:i<=0
  ·clear AA
   go_wp2_with fail
   go_ret3
   exact⟨by rw[AB.out];rfl,Hb.out⟩
  ·by_cases r2: (100:Int)< (l.length:Int)-i-1
   ·clear AA
    go_wp2_with fail
    go_ret3
    exact⟨by rw[AB.out];rfl,Hb.out⟩
   ·by_cases r3: (l.length:Int)-i-1=0
    ·have AO: ((l.length:Int)-i-1==0)=true:=by simp[r3]
     clear AA r3;go_wp2_with fail
     go_ret3
     exact⟨by rw[AB.out];rfl,Hb.out⟩
    ·have AO: ((l.length:Int)-i-1==0)=false:=by simp[r3]
     have r4: (155:Int)<i:=by omega
     clear AA r3;go_wp2_with fail
     go_ret3
     exact⟨by rw[AB.out];rfl,Hb.out⟩
theorem A8T (w:World) (l:List UInt8) (hl:100<l.length) (AQ:l.length<=1048576) (ha:D6 l=true) (AI:l.length<=156) (m:Nat) (hm:l.length=m+1) (x:UInt8) (hx:l[m]?=some x) (hs:x.toNat≠47):
  Calls Tryz.prog 97 #[str l] w (U8 l w):=by
 have h1:¬(l.length:Int)<=100:=by omega
 have h2:¬(156:Int)<l.length:=by omega
 have AR: (m:Int)<l.length:=by omega
 have AL: (l.length:Int)=(m:Int)+1:=by omega
 have AT:IntKind.i64.wrap ((l.length:Int)-1)=(m:Int):=by rw[zQ _ (by omega)];omega
 have AM:m< (⟨l.toArray⟩:ByteArray).size:=by rw[I6];omega
 have AU:=A7F l m x AM hx;have AS: ((x.toNat:Int)==47)=false:=by simp[hs];omega
 have AG:x=47\/x≠47:=by by_cases h:x=47<;>simp[h]
 have h:=J8 l w (by omega);rw[ha] at h;have hc:N6 l=l.length:=by rw[N6,if_neg (by omega),if_neg (by rw[hm];simp only[Nat.add_sub_cancel];rw[hx];intro e;cases e;exact hs rfl)]
 have AD:=λw'=>Tryz.strings_LastIndex ⟨l.toArray⟩ ⟨[47].toArray⟩ (by show l.toArray.size<_;simp;omega) w';have AE:M4 l=Lib.lastIndex l [47]:=by rw[M4,hc,List.take_length]
 simp only at AD;rw[<-AE] at AD;have AH:=A1R l;rw[<-AE] at AH;have AC:J2 l=decide (0<M4 l/\(l.length:Int)-M4 l-1<=100/\(l.length:Int)-M4 l-1≠0/\M4 l<=155):=by rw[J2,ha,zY hl];rfl
 have e3: (⟨l.toArray⟩:ByteArray).extract 0 l.length=⟨l.toArray⟩:=by rw[L3];simp
 clear AG hx;generalize hi:M4 l=i at*;clear hm AL;go_enter Tryz.func97,Tryz.ntmps97
 go_wp2_with fail
 refine h.mono ?_;rintro e w1 ⟨rfl,hb⟩;go_wp2_with fail
 refine(AD _).mono ?_;rintro e w2 ⟨rfl,rfl⟩;have AV:IntKind.i64.wrap ((l.length:Int)-i)=(l.length:Int)-i:=zQ _ (by omega);have AW:IntKind.i64.wrap ((l.length:Int)-i-1)=(l.length:Int)-i-1:=zQ _ (by omega);have Hb:=A0 hb;have AP:=AH;clear h AD AE hb e3;by_cases AA:0<i/\(l.length:Int)-i-1<=100/\(l.length:Int)-i-1≠0/\i<=155
 ·rw[zY AA] at AC
  obtain⟨k,rfl⟩:∃k:Nat,i=k:=⟨i.toNat,by omega⟩;obtain⟨o1,o2,o3,o4⟩:=AA;have p1:¬(k:Int)<=0:=by omega
  have p2:¬(100:Int)< (l.length:Int)-k-1:=by omega
  have p3: ((l.length:Int)-k-1==0)=false:=by simp;omega
  have p4:¬(155:Int)<k:=by omega
  have p5: (k:Int)<=l.length:=by omega
  have p6: (k:Int)+1<=l.length:=by omega
  have p7:IntKind.i64.wrap ((k:Int)+1)=(k:Int)+1:=zQ _ (by omega);have AB:=A0 AC;have AJ:=hi;clear AC hc o1 o2 o3 o4 hi;go_wp2_with fail
  go_quiet (fail)
  go_wp2_with fail
  go_ret3
  refine⟨?_,Hb.out.trans ⟨rfl,rfl,rfl,zB _,λ_ _=>rfl⟩⟩;rw[AB.out,if_pos rfl];have q2: (⟨l.toArray⟩:ByteArray).extract (k+1) l.length=⟨(l.drop (k+1)).toArray⟩:=by rw[L3,List.take_of_length_le (by simp)]
  have q1: (⟨l.toArray⟩:ByteArray).extract 0 k=⟨(l.take k).toArray⟩:=by rw[L3];simp
  simp[q1,q2,AJ]
 ·rw[zV AA] at AC
  have AB:=A0 AC;clear AC hc hi;by_cases r1:i<=0
  ·clear AA
   go_wp2_with fail
   go_ret3
   exact⟨by rw[AB.out];rfl,Hb.out⟩
  ·by_cases r2: (100:Int)< (l.length:Int)-i-1
   ·clear AA
    go_wp2_with fail
    go_ret3
    exact⟨by rw[AB.out];rfl,Hb.out⟩
   ·by_cases r3: (l.length:Int)-i-1=0
    ·have AO: ((l.length:Int)-i-1==0)=true:=by simp[r3]
     clear AA r3;go_wp2_with fail
     go_ret3
     exact⟨by rw[AB.out];rfl,Hb.out⟩
    ·have AO: ((l.length:Int)-i-1==0)=false:=by simp[r3]
     have r4: (155:Int)<i:=by omega
     clear AA r3;go_wp2_with fail
     go_ret3
     exact⟨by rw[AB.out];rfl,Hb.out⟩
theorem A6U (w:World) (l:List UInt8) (AA:l.length<=1048576):Calls Tryz.prog 97 #[str l] w (U8 l w):=by
 by_cases hl:l.length<=100
 ·have e:J2 l=false:=by simp[J2];omega
  refine(A8U w l hl).mono ?_;rintro e w' ⟨rfl,hb⟩;exact⟨by rw[e];rfl,hb⟩
 ·by_cases ha:D6 l=true
  ·by_cases AB:156<l.length
   ·exact A9e w l (by omega) AA ha AB
   ·obtain⟨m,hm⟩:∃m,l.length=m+1:=⟨l.length-1,by omega⟩
    obtain⟨x,hx⟩:∃x,l[m]?=some x:=⟨_,zF (by omega)⟩;by_cases hs:x.toNat=47
    ·exact A8V w l (by omega) AA ha (by omega) m hm x hx hs
    ·exact A8T w l (by omega) AA ha (by omega) m hm x hx hs
  ·have AC:D6 l=false:=by simpa using ha
   have e:J2 l=false:=by simp[J2,AC]
   refine(A9c w l (by omega) AA AC).mono ?_;rintro e w' ⟨rfl,hb⟩;exact⟨by rw[e];rfl,hb⟩
end Go.Proofs.YtkanmkcojlefbaaGreatDoor
