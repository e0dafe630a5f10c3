/-
  Part of the proof; holds the texts FmtO, Sum, Acc, Small, Shelf3, PlainOct.
-/
import Derived.Test.YtkanmkcojlefbaaGreatDoorM03
import Derived.Shelf.Bytes.SlTrim
set_option maxRecDepth 100000
set_option linter.unusedSimpArgs false
set_option linter.unusedVariables false
namespace Go.Proofs.YtkanmkcojlefbaaGreatDoor
open Go.RowKit
def B8 (n:Nat) (x:Int):Bool:=decide (0<=x/\x<8^ (n-1))
theorem A2U (x:Int) (w:World) (n:Nat) (hn:n=7\/n=8\/n=12) (h0: -9223372036854775808<=x) (h1:x<=9223372036854775807):Calls Tryz.prog 100 #[.int .i64 n,.int .i64 x] w λe w'=>e= .returned (.bool (B8 n x))/\w=w':=by
 by_cases hx:0<=x
 ·rcases hn with rfl|rfl|rfl
  ·have e:B8 7 x=decide (x<262144):=by simp[B8,hx]
   rw[e];go_enter Tryz.func100,Tryz.ntmps100
   go_wp2
   go_ret
   exact⟨rfl,rfl⟩
  ·have e:B8 8 x=decide (x<2097152):=by simp[B8,hx]
   rw[e];go_enter Tryz.func100,Tryz.ntmps100
   go_wp2
   go_ret
   exact⟨rfl,rfl⟩
  ·have e:B8 12 x=decide (x<8589934592):=by simp[B8,hx]
   rw[e];go_enter Tryz.func100,Tryz.ntmps100
   go_wp2
   go_ret
   exact⟨rfl,rfl⟩
 ·have e:B8 n x=false:=by simp[B8,hx]
  rw[e];have AA: (n:Int)<=12/\(7:Int)<=n:=by omega
  go_enter Tryz.func100,Tryz.ntmps100
  go_wp2
  go_ret
  exact⟨rfl,rfl⟩
def C2 (n u:Nat):List UInt8:=List.replicate (n-1- (E3 u).length) 48++E3 u++[0]
theorem D2 (n u:Nat) (hn:2<=n) (h:u<8^ (n-1)): (C2 n u).length=n:=by
 have:=A1T (n-2) u (by rwa [show n-2+1=n-1 by omega]);simp[C2];omega
theorem A8L (c:Nat): (⟨(Lib.repeatL [48] c).toArray⟩:ByteArray)=⟨(List.replicate c (48:UInt8)).toArray⟩:=by
 congr 2
 induction c with
 |zero=>rfl
 |succ c ih=>
  have AA:Lib.repeatL [48] c=List.replicate c 48:=by simpa using ih
  show _=_
  rw[List.replicate_succ,<-AA];rfl
theorem U1 (w:World) (fb g n c:Nat) (x:Int) (T:TypeId) (AD:List Value) (AG:List UInt8) (post:List Value) (h:E4 w g T AD AG post) (hn:AG.length=n) (AJ:n=7\/n=8\/n=12) (AP:n<=c)
  (hx:B8 n x=true) (hg:g≠15) (AM:w.cell? ⟨15,7,none⟩=some (.int .u8 3)):
  Calls Tryz.prog 130 #[.pointer (some ⟨fb,0,none⟩),.slice (some ⟨g,AD.length,none⟩) n c,.int .i64 x] w λe w'=>e= .returned (.tuple #[])/\E4 w' g T AD (C2 n x.toNat) post/\Fr w.heap.size [g] w w':=by
 simp only[B8,decide_eq_true_eq] at hx;have AL:x.toNat<8^ (n-2+1):=by rw[show n-2+1=n-1 by omega];rcases AJ with rfl|rfl|rfl<;>omega
 have AX:x<8589934592:=by rcases AJ with rfl|rfl|rfl<;>omega
 have AE:=A2U x w n AJ (by omega) (by omega);rw[show B8 n x=true by simp[B8];exact hx] at AE;have hf:=A4t x w hx.1 (by omega) AM;have hl:=A1T (n-2) x.toNat AL;have AS:=A0n x.toNat;have AC:C2 n x.toNat=List.replicate (n-1- (E3 x.toNat).length) 48++E3 x.toNat++[0]:=rfl;have AI:=D2 n x.toNat (by omega) (by rwa [show n-2+1=n-1 by omega] at AL);generalize C2 n x.toNat=F at*;generalize E3 x.toNat=ds at*;have hS:∀w',Below w.heap.size w w'->E4 w' g T AD AG post:=λw' hb=>(hb.block g (A8 h)).trans h
 have AB:∀w' s,Below w.heap.size w w'->s++[0]=F->Calls Tryz.prog 129 #[.pointer (some ⟨fb,0,none⟩),.slice (some ⟨g,AD.length,none⟩) n c,str s] w' λe w2=>e= .returned (.tuple #[])/\E4 w2 g T AD F post/\Fr w.heap.size [g] w w2:=λw' s hb hs=>by
  have AU:s.length+1=n:=by rw[<-AI,<-hs];simp
  refine(W8 w' fb g n c s T AD AG post (hS w' hb) hn AP (by omega) (by omega)).mono ?_;rintro e w2 ⟨rfl,h1,h2⟩;rw[List.drop_eq_nil_of_le (by omega),hs] at h1;exact⟨rfl,h1,(Fr.of_below hb _ _).trans (h2.wide hb.size (by simp))⟩
 have AT: (n:Int)<=12/\(7:Int)<=n:=by omega
 have AV:IntKind.i64.wrap ((n:Int)-ds.length)=(n:Int)-ds.length:=by rw[IntWalk.i64_in _ (by omega)]
 have AW:IntKind.i64.wrap ((n:Int)-ds.length-1)=(n:Int)-ds.length-1:=by rw[IntWalk.i64_in _ (by omega)]
 go_enter Tryz.func130,Tryz.ntmps130
 go_wp2_with fail
 refine AE.mono ?_;rintro e w1 ⟨rfl,rfl⟩;go_wp2_with fail
 refine hf.mono ?_;rintro e w1 ⟨rfl,AH⟩;by_cases hz:ds.length+1<n
 ·have AQ: (0:Int)< (n:Int)-ds.length-1:=by omega
  have AA:=λw'=>Tryz.strings_Repeat ⟨[48].toArray⟩ (n-1-ds.length) w' (by omega) (by simp[ByteArray.size];omega);rw[show(((n-1-ds.length:Nat)):Int)=(n:Int)-ds.length-1 by omega] at AA;simp only[List.toList_toArray] at AA;rw[A8L] at AA;go_wp2_with fail
  refine(AA _).mono ?_;rintro e w2 ⟨rfl,AO⟩;go_wp2_with fail
  rw[V5];refine(AB _ (List.replicate (n-1-ds.length) 48++ds) (AH.trans (AO.mono AH.size)) AC.symm).mono ?_;rintro e w3 ⟨rfl,h3,h4⟩;go_wp2_with fail
  go_end0
  exact⟨rfl,h3,h4⟩
 ·have AQ:¬(0:Int)< (n:Int)-ds.length-1:=by omega
  have AR:n-1-ds.length=0:=by omega
  rw[AR] at AC;go_wp2_with fail
  refine(AB _ ds AH (by rw[AC];rfl)).mono ?_;rintro e w3 ⟨rfl,h3,h4⟩;go_wp2_with fail
  go_end0
  exact⟨rfl,h3,h4⟩
theorem A4R (w:World) (fb g n c:Nat) (x:Int) (T:TypeId) (AC:List Value) (AI:List UInt8) (post:List Value) (AP:Value) (aE:Addr) (h:E4 w g T AC AI post) (hn:AI.length=n) (AW:n=7\/n=8\/n=12) (AX:n<=c)
  (AY: -9223372036854775808<=x) (AZ:x<=9223372036854775807) (hx:B8 n x=false) (AT:w.cell? ⟨15,7,none⟩=some (.int .u8 3))
  (AE:w.heap[fb]?=some (.cells #[AP] 196 (0,0))) (AR:fb≠g) (AM:fb≠15) (hE:w.cell? ⟨3,0,none⟩=some (I7 aE)):
  Calls Tryz.prog 130 #[.pointer (some ⟨fb,0,none⟩),.slice (some ⟨g,AC.length,none⟩) n c,.int .i64 x] w λe w'=>e= .returned (.tuple #[])/\E4 w' g T AC (C2 n 0) post/\w'.heap[fb]?=some (.cells #[I7 aE] 196 (0,0))/\Fr w.heap.size [g,fb] w w':=by
 have AG:=A2U x w n AW AY AZ;rw[hx] at AG;have Ad:w.cell? ⟨fb,0,none⟩=some AP:=by rw[Lib.cell_of_heap AE];rfl
 have Al:w.frozen? ⟨fb,0,none⟩=false:=Lib.frozen_of_heap AE 0;have AA:=B6 (i:=0) (I7 aE) AE;have h0:E4 (w.setCell ⟨fb,0,none⟩ (I7 aE)) g T AC AI post:=(C0 _ (Ne.symm AR)).trans h;have AL:Fr w.heap.size [g,fb] w (w.setCell ⟨fb,0,none⟩ (I7 aE)):=(Fr.refl _ _ w).setCell (.inl (by simp)) _;have AJ: (w.setCell ⟨fb,0,none⟩ (I7 aE)).cell? ⟨15,7,none⟩=some (.int .u8 3):=by rw[World.cell?_of_block (w:=w) (C0 _ (by simpa using Ne.symm AM))];exact AT
 have hf:=A4t 0 (w.setCell ⟨fb,0,none⟩ (I7 aE)) (by omega) (by omega) AJ;have AO:=D2 n 0 (by omega) (Nat.pow_pos (by omega));have AD:C2 n 0=List.replicate (n-1- (E3 0).length) 48++E3 0++[0]:=rfl;have AV: (E3 0).length=1:=by rw[U4 (by omega)];rfl
 simp only[Int.toNat_zero] at hf;generalize C2 n 0=F at*;generalize E3 0=ds at*;have Ag: (w.setCell ⟨fb,0,none⟩ (I7 aE)).heap.size=w.heap.size:=by simp[World.setCell]
 generalize Ah:w.setCell ⟨fb,0,none⟩ (I7 aE)=w1 at*
 have AH:∀w' s,Below w1.heap.size w1 w'->s++[0]=F->Calls Tryz.prog 129 #[.pointer (some ⟨fb,0,none⟩),.slice (some ⟨g,AC.length,none⟩) n c,str s] w' λe w2=>e= .returned (.tuple #[])/\E4 w2 g T AC F post/\w2.heap[fb]?=some (.cells #[I7 aE] 196 (0,0))/\Fr w.heap.size [g,fb] w w2:=λw' s hb hs=>by
  have Af:s.length+1=n:=by rw[<-AO,<-hs];simp
  refine(W8 w' fb g n c s T AC AI post ((hb.block g (A8 h0)).trans h0) hn AX (by omega) (by omega)).mono ?_;rintro e w2 ⟨rfl,h1,h2⟩;rw[List.drop_eq_nil_of_le (by omega),hs] at h1;have h3:=h2.cells ((hb.block fb (A8 AA)).trans AA) (by simpa using AR) (.inr (by decide));exact⟨rfl,h1,h3,(AL.trans (Fr.of_below hb _ _)).trans (h2.wide (by have:=hb.size;omega) (by simp))⟩
 have Ae: (n:Int)<=12/\(7:Int)<=n:=by omega
 have Ac: (ds.length:Int)=1:=by omega
 have Ai:IntKind.i64.wrap ((n:Int)-1)=(n:Int)-1:=by rw[IntWalk.i64_in _ (by omega)]
 have Aj:IntKind.i64.wrap ((n:Int)-1-1)=(n:Int)-1-1:=by rw[IntWalk.i64_in _ (by omega)]
 have Ak: (0:Int)< (n:Int)-1-1:=by omega
 have AB:=λw'=>Tryz.strings_Repeat ⟨[48].toArray⟩ (n-1-1) w' (by omega) (by simp[ByteArray.size];omega);rw[show(((n-1-1:Nat)):Int)=(n:Int)-1-1 by omega] at AB;simp only[List.toList_toArray] at AB;rw[A8L] at AB;rw[AV] at AD;have Hh:=A0 h;have Ab:=A0 h0;have HF:=A0 AL;have Aa:=A0 AE;have AS:=A0 AA;clear h h0 AL AE AA;go_enter Tryz.func130,Tryz.ntmps130
 go_wp2_with fail
 refine AG.mono ?_;rintro e w1 ⟨rfl,rfl⟩;go_wp2_with fail
 refine hf.mono ?_;rintro e w2 ⟨rfl,AQ⟩;go_wp2_with fail
 refine(AB _).mono ?_;rintro e w3 ⟨rfl,AU⟩;go_wp2_with fail
 rw[V5];refine(AH _ (List.replicate (n-1-1) 48++ds) (AQ.trans (AU.mono AQ.size)) AD.symm).mono ?_;rintro e w4 ⟨rfl,h3,h4,h5⟩;go_wp2_with fail
 go_end0
 exact⟨rfl,h3,h4,h5⟩
theorem N0 (w:World) (fb g n c:Nat) (x:Int) (T:TypeId) (AB:List Value) (AD:List UInt8) (post:List Value) (AC:Value) (aE:Addr) (h:E4 w g T AB AD post) (hn:AD.length=n) (AI:n=7\/n=8\/n=12) (AJ:n<=c)
  (AO: -9223372036854775808<=x) (AP:x<=9223372036854775807) (hg:g≠15) (AG:w.cell? ⟨15,7,none⟩=some (.int .u8 3))
  (AH:w.heap[fb]?=some (.cells #[AC] 196 (0,0))) (AL:fb≠g) (AE:fb≠15) (hE:w.cell? ⟨3,0,none⟩=some (I7 aE)):
  Calls Tryz.prog 130 #[.pointer (some ⟨fb,0,none⟩),.slice (some ⟨g,AB.length,none⟩) n c,.int .i64 x] w λe w'=>e= .returned (.tuple #[])/\
   ∃AA,(B8 n x=true->AA=AC)/\E4 w' g T AB (C2 n (if B8 n x then x.toNat else 0)) post/\w'.heap[fb]?=some (.cells #[AA] 196 (0,0))/\Fr w.heap.size [g,fb] w w':=by
 by_cases hx:B8 n x=true
 ·refine(U1 w fb g n c x T AB AD post h hn AI AJ hx hg AG).mono ?_
  rintro e w' ⟨rfl,h1,h2⟩;rw[hx];exact⟨rfl,AC,λ_=>rfl,h1,h2.cells AH (by simpa using AL) (.inr (by decide)),h2.wide (Nat.le_refl _) (by simp)⟩
 ·have AM:B8 n x=false:=by simpa using hx
  refine(A4R w fb g n c x T AB AD post AC aE h hn AI AJ AO AP AM AG AH AL AE hE).mono ?_;rintro e w' ⟨rfl,h1,h2,h3⟩;rw[AM];exact⟨rfl,I7 aE,(λh=>by cases h),h1,h2,h3⟩
def A4q (bs:List UInt8) (k:Nat):Nat:=if 148<=k/\k<156 then 32 else(bs.getD k 0).toNat
def X8 (bs:List UInt8):Nat->Nat
 |0=>0
 |k+1=>X8 bs k+A4q bs k
theorem B3v (bs:List UInt8) (k:Nat):A4q bs k<=255:=by
 rw[A4q];split
 ·omega
 ·have:=(bs.getD k 0).toNat_lt;omega
theorem A0l (bs:List UInt8):∀k,X8 bs k<=255*k
 |0=>Nat.le_refl _
 |k+1=>by have:=A0l bs k;have:=B3v bs k;rw[X8];omega
theorem A2w (w:World) (g:Nat) (T:TypeId) (AE:List Value) (bs:List UInt8) (post:List Value) (h:E4 w g T AE bs post) (hn:bs.length=512):
  Calls Tryz.prog 185 #[.pointer (some ⟨g,AE.length,none⟩)] w λe w'=>(∃z:Int,e= .returned (.tuple #[.int .i64 (X8 bs 512),.int .i64 z]))/\A1h w w':=by
 have H:=A0 h;clear h;go_enter Tryz.func185,Tryz.ntmps185
 go_wp2_with fail
 go_loopw [2,3,7] (λa b i wr=>∃ (k:Nat) (z:Int),k<=512/\a= .int .i64 (X8 bs k)/\b= .int .i64 z/\i= .int .i64 k/\A1h w wr) (λ_ _ i _=>512- (intOf i).toNat)
 case atStart=>exact⟨0,0,by omega,rfl,rfl,rfl,A1h.refl w⟩
 case round=>
  obtain⟨k,z,hk,rfl,rfl,rfl,hd⟩:=hrel;have AA:=A0 hd;by_cases AJ:k<512
  ·have AH: (k:Int)<512:=by omega
   obtain⟨x,hx⟩:∃x,bs[k]?=some x:=⟨_,List.getElem?_eq_getElem (by omega)⟩
   have hc:wr.cell? ⟨g,AE.length+k,none⟩=some (.int .u8 x.toNat):=by
    obtain⟨nd,rfl⟩:=hd;exact H.out.cell k x hx
   have AI:=A0l bs k;have AL:=x.toNat_lt;have e1:X8 bs (k+1)=X8 bs k+A4q bs k:=rfl;by_cases AG:148<=k/\k<156
   ·have AB: (148:Int)<=k:=by omega
    have AC: (k:Int)<156:=by omega
    have e2:A4q bs k=32:=by rw[A4q,if_pos AG]
    have E:=A0 (e1.trans (by rw[e2]));clear hd hx e1 e2;go_wp2_with fail
    go_quiet (fail)
    go_wp2_with fail
    go_roundw
    case rel=>exact⟨k+1,_,by omega,by rw[E.out];rfl,rfl,by go_num,AA.out.next _⟩
    case measure=>simp[intOf];omega
   ·have e2:A4q bs k=x.toNat:=by rw[A4q,if_neg AG,List.getD_eq_getElem?_getD,hx];rfl
    have E:=A0 (e1.trans (by rw[e2]));clear hd hx e1 e2;by_cases AB:148<=k
    ·have AD: (148:Int)<=k:=by omega
     have AC:¬(k:Int)<156:=by omega
     go_wp2_with fail
     go_quiet (fail)
     go_wp2_with fail
     go_roundw
     case rel=>exact⟨k+1,_,by omega,by rw[E.out];rfl,rfl,by go_num,AA.out.next _⟩
     case measure=>simp[intOf];omega
    ·have AD:¬(148:Int)<=k:=by omega
     go_wp2_with fail
     go_quiet (fail)
     go_wp2_with fail
     go_roundw
     case rel=>exact⟨k+1,_,by omega,by rw[E.out];rfl,rfl,by go_num,AA.out.next _⟩
     case measure=>simp[intOf];omega
  ·have AH:¬(k:Int)<512:=by omega
   obtain rfl:k=512:=by omega
   clear hd;go_wp2_with fail
   go_ret2
   exact⟨⟨z,rfl⟩,AA.out⟩
theorem A5Z (w:World) (a:Addr):Calls Tryz.prog 106 #[.pointer (some a)] w (C4 w (.pointer (some a))):=by
 go_enter Tryz.func106,Tryz.ntmps106
 go_wp2_with fail
 go_ret
 exact⟨rfl,rfl⟩
theorem Z0 (w:World) (a:Addr):Calls Tryz.prog 107 #[.pointer (some a)] w (C4 w (.pointer (some a))):=by
 go_enter Tryz.func107,Tryz.ntmps107
 go_wp2_with fail
 go_ret
 exact⟨rfl,rfl⟩
theorem A8Y (w:World) (a:Addr):Calls Tryz.prog 108 #[.pointer (some a)] w (C4 w (.pointer (some a))):=by
 go_enter Tryz.func108,Tryz.ntmps108
 go_wp2_with fail
 go_ret
 exact⟨rfl,rfl⟩
theorem B3W (w:World) (a:Addr):Calls Tryz.prog 178 #[.pointer (some a)] w (C4 w (.pointer (some a))):=by
 go_enter Tryz.func178,Tryz.ntmps178
 go_wp2_with fail
 go_ret
 exact⟨rfl,rfl⟩
theorem A0q (w:World) (g o:Nat):Calls Tryz.prog 109 #[.pointer (some ⟨g,o,none⟩)] w (C4 w (.slice (some ⟨g,o,none⟩) 100 512)):=by
 go_enter Tryz.func109,Tryz.ntmps109
 go_wp2_with fail
 go_ret
 exact⟨rfl,rfl⟩
theorem A1a (w:World) (g o:Nat):Calls Tryz.prog 110 #[.pointer (some ⟨g,o,none⟩)] w (C4 w (.slice (some ⟨g,o+157,none⟩) 100 355)):=by
 go_enter Tryz.func110,Tryz.ntmps110
 go_wp2_with fail
 go_ret
 exact⟨rfl,rfl⟩
theorem A0F (w:World) (g o:Nat):Calls Tryz.prog 113 #[.pointer (some ⟨g,o,none⟩)] w (C4 w (.slice (some ⟨g,o+100,none⟩) 8 412)):=by
 go_enter Tryz.func113,Tryz.ntmps113
 go_wp2_with fail
 go_ret
 exact⟨rfl,rfl⟩
theorem A1g (w:World) (g o:Nat):Calls Tryz.prog 114 #[.pointer (some ⟨g,o,none⟩)] w (C4 w (.slice (some ⟨g,o+108,none⟩) 8 404)):=by
 go_enter Tryz.func114,Tryz.ntmps114
 go_wp2_with fail
 go_ret
 exact⟨rfl,rfl⟩
theorem A1f (w:World) (g o:Nat):Calls Tryz.prog 115 #[.pointer (some ⟨g,o,none⟩)] w (C4 w (.slice (some ⟨g,o+116,none⟩) 8 396)):=by
 go_enter Tryz.func115,Tryz.ntmps115
 go_wp2_with fail
 go_ret
 exact⟨rfl,rfl⟩
theorem A0G (w:World) (g o:Nat):Calls Tryz.prog 116 #[.pointer (some ⟨g,o,none⟩)] w (C4 w (.slice (some ⟨g,o+124,none⟩) 12 388)):=by
 go_enter Tryz.func116,Tryz.ntmps116
 go_wp2_with fail
 go_ret
 exact⟨rfl,rfl⟩
theorem V8 (w:World) (g o:Nat):Calls Tryz.prog 119 #[.pointer (some ⟨g,o,none⟩)] w (C4 w (.slice (some ⟨g,o+136,none⟩) 12 376)):=by
 go_enter Tryz.func119,Tryz.ntmps119
 go_wp2_with fail
 go_ret
 exact⟨rfl,rfl⟩
theorem B0M (w:World) (g o:Nat):Calls Tryz.prog 184 #[.pointer (some ⟨g,o,none⟩)] w (C4 w (.slice (some ⟨g,o+148,none⟩) 8 364)):=by
 go_enter Tryz.func184,Tryz.ntmps184
 go_wp2_with fail
 go_ret
 exact⟨rfl,rfl⟩
theorem A3t (w:World) (g o:Nat):Calls Tryz.prog 174 #[.pointer (some ⟨g,o,none⟩)] w (C4 w (.slice (some ⟨g,o+156,none⟩) 1 356)):=by
 go_enter Tryz.func174,Tryz.ntmps174
 go_wp2_with fail
 go_ret
 exact⟨rfl,rfl⟩
theorem A3T (w:World) (g o:Nat):Calls Tryz.prog 111 #[.pointer (some ⟨g,o,none⟩)] w (C4 w (.slice (some ⟨g,o+265,none⟩) 32 247)):=by
 go_enter Tryz.func111,Tryz.ntmps111
 go_wp2_with fail
 go_ret
 exact⟨rfl,rfl⟩
theorem A1Z (w:World) (g o:Nat):Calls Tryz.prog 112 #[.pointer (some ⟨g,o,none⟩)] w (C4 w (.slice (some ⟨g,o+297,none⟩) 32 215)):=by
 go_enter Tryz.func112,Tryz.ntmps112
 go_wp2_with fail
 go_ret
 exact⟨rfl,rfl⟩
theorem A7I (w:World) (g o:Nat):Calls Tryz.prog 117 #[.pointer (some ⟨g,o,none⟩)] w (C4 w (.slice (some ⟨g,o+329,none⟩) 8 183)):=by
 go_enter Tryz.func117,Tryz.ntmps117
 go_wp2_with fail
 go_ret
 exact⟨rfl,rfl⟩
theorem A7J (w:World) (g o:Nat):Calls Tryz.prog 118 #[.pointer (some ⟨g,o,none⟩)] w (C4 w (.slice (some ⟨g,o+337,none⟩) 8 175)):=by
 go_enter Tryz.func118,Tryz.ntmps118
 go_wp2_with fail
 go_ret
 exact⟨rfl,rfl⟩
theorem A7K (w:World) (g o:Nat):Calls Tryz.prog 131 #[.pointer (some ⟨g,o,none⟩)] w (C4 w (.slice (some ⟨g,o+345,none⟩) 155 167)):=by
 go_enter Tryz.func131,Tryz.ntmps131
 go_wp2_with fail
 go_ret
 exact⟨rfl,rfl⟩
theorem A9l (w:World) (g o:Nat):Calls Tryz.prog 182 #[.pointer (some ⟨g,o,none⟩)] w (C4 w (.slice (some ⟨g,o+257,none⟩) 6 255)):=by
 go_enter Tryz.func182,Tryz.ntmps182
 go_wp2_with fail
 go_ret
 exact⟨rfl,rfl⟩
theorem A5a (w:World) (g o:Nat):Calls Tryz.prog 183 #[.pointer (some ⟨g,o,none⟩)] w (C4 w (.slice (some ⟨g,o+263,none⟩) 2 249)):=by
 go_enter Tryz.func183,Tryz.ntmps183
 go_wp2_with fail
 go_ret
 exact⟨rfl,rfl⟩
theorem B5S (w:World) (g o:Nat):Calls Tryz.prog 176 #[.pointer (some ⟨g,o,none⟩)] w (C4 w (.slice (some ⟨g,o+257,none⟩) 6 255)):=by
 go_enter Tryz.func176,Tryz.ntmps176
 go_wp2_with fail
 go_ret
 exact⟨rfl,rfl⟩
theorem B2N (w:World) (g o:Nat):Calls Tryz.prog 177 #[.pointer (some ⟨g,o,none⟩)] w (C4 w (.slice (some ⟨g,o+263,none⟩) 2 249)):=by
 go_enter Tryz.func177,Tryz.ntmps177
 go_wp2_with fail
 go_ret
 exact⟨rfl,rfl⟩
theorem A6r (w:World) (g o:Nat):Calls Tryz.prog 120 #[.pointer (some ⟨g,o,none⟩)] w (C4 w (.slice (some ⟨g,o+345,none⟩) 12 167)):=by
 go_enter Tryz.func120,Tryz.ntmps120
 go_wp2_with fail
 go_ret
 exact⟨rfl,rfl⟩
theorem A6s (w:World) (g o:Nat):Calls Tryz.prog 121 #[.pointer (some ⟨g,o,none⟩)] w (C4 w (.slice (some ⟨g,o+357,none⟩) 12 155)):=by
 go_enter Tryz.func121,Tryz.ntmps121
 go_wp2_with fail
 go_ret
 exact⟨rfl,rfl⟩
theorem A8P (w:World) (g o:Nat):Calls Tryz.prog 181 #[.pointer (some ⟨g,o,none⟩)] w (C4 w (.slice (some ⟨g,o+508,none⟩) 4 4)):=by
 go_enter Tryz.func181,Tryz.ntmps181
 go_wp2_with fail
 go_ret
 exact⟨rfl,rfl⟩
theorem R6 (w:World) (a:Nat) (u p g u2 p2 g2:Bool) (h:w.heap[a]?=some (.cells #[.int .i64 (fm u p g)] 128 (0,0))):
  Calls Tryz.prog 123 #[.pointer (some ⟨a,0,none⟩),.int .i64 (fm u2 p2 g2)] w (C4 (w.setCell ⟨a,0,none⟩ (.int .i64 (fm (u&&u2) (p&&p2) (g&&g2)))) (.tuple #[])):=by
 have c0:w.cell? ⟨a,0,none⟩=some (.int .i64 (fm u p g)):=by rw[Lib.cell_of_heap h];rfl
 have z0:w.frozen? ⟨a,0,none⟩=false:=Lib.frozen_of_heap h 0
 have e:bits .and .i64 (fm u p g) (fm u2 p2 g2)=fm (u&&u2) (p&&p2) (g&&g2):=by
  cases u<;>cases p<;>cases g<;>cases u2<;>cases p2<;>cases g2<;>kernel_rfl
 generalize fm u p g=f at*;generalize fm (u&&u2) (p&&p2) (g&&g2)=f3 at*;generalize fm u2 p2 g2=f2 at*;clear h;go_enter Tryz.func123,Tryz.ntmps123
 go_wp2_with fail
 go_end0
 exact⟨rfl,rfl⟩
theorem B7J (w:World) (a:Nat) (u p g u2 p2 g2:Bool) (h:w.heap[a]?=some (.cells #[.int .i64 (fm u p g)] 128 (0,0))):
  Calls Tryz.prog 127 #[.pointer (some ⟨a,0,none⟩),.int .i64 (fm u2 p2 g2)] w (C4 (w.setCell ⟨a,0,none⟩ (.int .i64 (fm (u||u2) (p||p2) (g||g2)))) (.tuple #[])):=by
 have c0:w.cell? ⟨a,0,none⟩=some (.int .i64 (fm u p g)):=by rw[Lib.cell_of_heap h];rfl
 have z0:w.frozen? ⟨a,0,none⟩=false:=Lib.frozen_of_heap h 0
 have e:bits .or .i64 (fm u p g) (fm u2 p2 g2)=fm (u||u2) (p||p2) (g||g2):=by
  cases u<;>cases p<;>cases g<;>cases u2<;>cases p2<;>cases g2<;>kernel_rfl
 generalize fm u p g=f at*;generalize fm (u||u2) (p||p2) (g||g2)=f3 at*;generalize fm u2 p2 g2=f2 at*;clear h;go_enter Tryz.func127,Tryz.ntmps127
 go_wp2_with fail
 go_end0
 exact⟨rfl,rfl⟩
theorem A5o (w:World) (u p g u2 p2 g2:Bool):Calls Tryz.prog 66 #[.int .i64 (fm u p g),.int .i64 (fm u2 p2 g2)] w (C4 w (.bool ((u&&u2)||(p&&p2)||(g&&g2)))):=by
 have e: (bits .and .i64 (fm u p g) (fm u2 p2 g2) !=0)=((u&&u2)||(p&&p2)||(g&&g2)):=by
  cases u<;>cases p<;>cases g<;>cases u2<;>cases p2<;>cases g2<;>kernel_rfl
 cases hb: ((u&&u2)||(p&&p2)||(g&&g2))
 ·rw[hb] at e
  generalize fm u p g=f at*;generalize fm u2 p2 g2=f2 at*;clear hb;go_enter Tryz.func66,Tryz.ntmps66
  go_wp2
  go_ret
  exact⟨rfl,rfl⟩
 ·rw[hb] at e
  generalize fm u p g=f at*;generalize fm u2 p2 g2=f2 at*;clear hb;go_enter Tryz.func66,Tryz.ntmps66
  go_wp2
  go_ret
  exact⟨rfl,rfl⟩
def T9 (l:List UInt8):Bool:=Lib.hasSuffix l [47]
theorem A4w (w:World) (l:List UInt8) (hl:l.length<=4611686018427387904):Calls Tryz.prog 63 #[str l,str [47]] w (C4 w (.bool (T9 l))):=by
 refine(Tryz.strings_HasSuffix ⟨l.toArray⟩ ⟨[47].toArray⟩ w (by rw[I6];omega)).mono ?_;rintro e w' ⟨rfl,rfl⟩;exact⟨by simp[T9],rfl⟩
theorem A4v (w:World) (l p:List UInt8):Calls Tryz.prog 125 #[str l,str p] w (C4 w (.bool (Lib.hasPrefix l p))):=by
 refine(Tryz.strings_HasPrefix ⟨l.toArray⟩ ⟨p.toArray⟩ w).mono ?_;rintro e w' ⟨rfl,rfl⟩;exact⟨by simp,rfl⟩
theorem A0c (w:World) (k v:List UInt8) (hk:k.length<=2305843009213693952) (hv:v.length<=2305843009213693952) (h:F0 k v=true):Calls Tryz.prog 126 #[str k,str v] w (C4 w (.bool true)):=by
 have AC:=(M7 h).1;have AB:=(M7 h).2;have hc:=A4N k 61 w (by omega);rw[decide_eq_false AB] at hc
 have he:k.isEmpty=false:=by cases k with
  |nil=>exact absurd rfl AC
  |cons a b=>rfl
 have h3: (if k=H0\/k=I3\/k=F8\/k=F7 then !(decide ((0:UInt8)∈v)) else !(decide ((0:UInt8)∈k)))=true:=by
  simp only[F0,Bool.and_eq_true] at h;exact h.2
 by_cases AA:k=H0\/k=I3\/k=F8\/k=F7
 ·rw[if_pos AA] at h3
  have hn:=P0 v w (by omega);rw[show decide ((0:UInt8)∈v)=false by simpa using h3] at hn;rcases AA with rfl|rfl|rfl|rfl<;>
  ·(try unfold H0 at*);(try unfold I3 at*);(try unfold F8 at*);(try unfold F7 at*)
   clear h h3 AC AB hk;go_enter Tryz.func126,Tryz.ntmps126
   go_wp2_with (first|(go_at_call 166;refine hc.mono ?_;rintro e w' ⟨rfl,rfl⟩)|(go_at_call 94;refine hn.mono ?_;rintro e w' ⟨rfl,rfl⟩))
   go_ret
   exact⟨rfl,rfl⟩
 ·rw[if_neg AA] at h3
  have hn:=P0 k w (by omega);rw[show decide ((0:UInt8)∈k)=false by simpa using h3] at hn;have q1: (k==[112,97,116,104])=false:=by rw[beq_eq_false_iff_ne];exact λe=>AA (.inl e)
  have q2: (k==[108,105,110,107,112,97,116,104])=false:=by rw[beq_eq_false_iff_ne];exact λe=>AA (.inr (.inl e))
  have q3: (k==[117,110,97,109,101])=false:=by rw[beq_eq_false_iff_ne];exact λe=>AA (.inr (.inr (.inl e)))
  have q4: (k==[103,110,97,109,101])=false:=by rw[beq_eq_false_iff_ne];exact λe=>AA (.inr (.inr (.inr e)))
  clear h h3 AC AB hk AA;go_enter Tryz.func126,Tryz.ntmps126
  go_wp2_with (first|(go_at_call 166;refine hc.mono ?_;rintro e w' ⟨rfl,rfl⟩)|(go_at_call 94;refine hn.mono ?_;rintro e w' ⟨rfl,rfl⟩))
  go_ret
  exact⟨rfl,rfl⟩
theorem A2j {v:Value} {x:Bool} {ps:List MemPlace} (h:plainElem (H:=Unit) Tryz.prog 4 v=some (.lit (.bool x),ps)):v= .bool x:=by
 have hu:=Tryz.underlying4;revert h
 generalize Tryz.prog.underlying 4=u at*;subst hu;intro h;unfold plainElem at h;cases v<;>simp_all
open Go.Maps Go.WideMaps Go.ChangeMaps in
theorem A2Z.look {w:World} {mb:Nat} (h:A2Z w mb) (k:List UInt8) (hk:k.length<=maxLen): (Instr.lookup 194 (.map (some mb)) (str k) false).run Tryz.prog w= .ok (.bool (decide (k∈F6))) w:=by
 obtain⟨D,n,h1,h2⟩:=h;have hz: (zeroValue 4).run Tryz.prog w= .ok (.bool false) w:=by kernel_rfl
 have AA:keyOf Tryz.prog 9 (str k)=some (.string k):=by
  have:=keyOf_string_mk (P:=Tryz.prog) (k:=9) Tryz.underlying9 (s:=⟨k.toArray⟩) (by rw[I6];exact hk);simpa using this
 obtain⟨v,ps,hr,hv⟩:=h1.lookup (t:=194) A4x Tryz.underlying194 hz (plainElem_bool (H:=Unit) Tryz.underlying4 false) AA;have e:=h2 k;generalize decide (k∈F6)=x0 at*;rw[e] at hv;refine hr.trans ?_;have AB:=A2j hv;rw[AB]
end Go.Proofs.YtkanmkcojlefbaaGreatDoor
namespace Go.Proofs
open Go.Shelf
def Tryz.laysSlV6_ren:Go.Shelf.Ren:=⟨fun|6=>275|10=>298|9=>297|11=>299|13=>301|12=>300|15=>303|14=>302|16=>312|19=>314|18=>313|17=>277|21=>318|20=>304|n=>n,fun|22=>35|9=>9|3=>3|4=>4|5=>5|28=>372|27=>371|0=>0|31=>375|21=>21|33=>353|36=>387|37=>167|40=>390|39=>389|n=>n,fun|0=>16|1=>17|n=>n⟩
theorem Tryz.laysSlV6:Go.Proofs.SlLaysV.n6 Tryz.prog Tryz.laysSlV6_ren:= {
 mixed:=by kernel_rfl
 f6:=Tryz.func275.trans (congrArg some (by kernel_rfl))
 f9:=Tryz.func297.trans (congrArg some (by kernel_rfl))
 f10:=Tryz.func298.trans (congrArg some (by kernel_rfl))
 f11:=Tryz.func299.trans (congrArg some (by kernel_rfl))
 f12:=Tryz.func300.trans (congrArg some (by kernel_rfl))
 f13:=Tryz.func301.trans (congrArg some (by kernel_rfl))
 f14:=Tryz.func302.trans (congrArg some (by kernel_rfl))
 f15:=Tryz.func303.trans (congrArg some (by kernel_rfl))
 f16:=Tryz.func312.trans (congrArg some (by kernel_rfl))
 f17:=Tryz.func277.trans (congrArg some (by kernel_rfl))
 f18:=Tryz.func313.trans (congrArg some (by kernel_rfl))
 f19:=Tryz.func314.trans (congrArg some (by kernel_rfl))
 f20:=Tryz.func304.trans (congrArg some (by kernel_rfl))
 f21:=Tryz.func318.trans (congrArg some (by kernel_rfl))
 t0:=Tryz.underlying0
 a0:=Tryz.isAgg0
 z0:=Tryz.sizeOf0
 v0:=Tryz.zeroValue0
 t3:=Tryz.underlying3
 a3:=Tryz.isAgg3
 z3:=Tryz.sizeOf3
 v3:=Tryz.zeroValue3
 t4:=Tryz.underlying4
 a4:=Tryz.isAgg4
 z4:=Tryz.sizeOf4
 v4:=Tryz.zeroValue4
 t5:=Tryz.underlying5
 a5:=Tryz.isAgg5
 z5:=Tryz.sizeOf5
 v5:=Tryz.zeroValue5
 t9:=Tryz.underlying9
 a9:=Tryz.isAgg9
 z9:=Tryz.sizeOf9
 v9:=Tryz.zeroValue9
 t21:=Tryz.underlying21
 a21:=Tryz.isAgg21
 z21:=Tryz.sizeOf21
 v21:=Tryz.zeroValue21
 t22:=Tryz.underlying35
 a22:=Tryz.isAgg35
 z22:=Tryz.sizeOf35
 v22:=Tryz.zeroValue35
 t27:=Tryz.underlying371
 a27:=Tryz.isAgg371
 z27:=Tryz.sizeOf371
 t28:=Tryz.underlying372
 a28:=Tryz.isAgg372
 z28:=Tryz.sizeOf372
 v28:=Tryz.zeroValue372
 t31:=Tryz.underlying375
 a31:=Tryz.isAgg375
 z31:=Tryz.sizeOf375
 v31:=Tryz.zeroValue375
 t33:=Tryz.underlying353
 a33:=Tryz.isAgg353
 z33:=Tryz.sizeOf353
 v33:=Tryz.zeroValue353
 t36:=Tryz.underlying387
 a36:=Tryz.isAgg387
 z36:=Tryz.sizeOf387
 t37:=Tryz.underlying167
 a37:=Tryz.isAgg167
 z37:=Tryz.sizeOf167
 v37:=Tryz.zeroValue167
 t39:=Tryz.underlying389
 a39:=Tryz.isAgg389
 z39:=Tryz.sizeOf389
 v39:=Tryz.zeroValue389
 t40:=Tryz.underlying390
 a40:=Tryz.isAgg390
 z40:=Tryz.sizeOf390
 v40:=Tryz.zeroValue390}
open Go.RowKit Go.Lib in
theorem Tryz.bytes_Trim_laid (p:Option Addr) (n c:Nat) (xs:List Int) (AA:ByteArray) (w:World)
  (hx:xs.length=n) (AE:n<=c) (AC:c<=9223372036854775807) (h1:Lib.BytesIn w p n xs) (hr:∀x∈xs,0<=x/\x<256) (AD:AA.size<4294967281) (AB:∀ (j:Nat) b,AA.data.toList[j]?=some b->b.toNat<128):
  Calls Tryz.prog 275 #[.slice p n c,.string AA] w λe w'=>e= .returned (Lib.leftV p (Lib.trimRightS (Lib.bytesOf xs) AA.data.toList).length c ((Lib.trimRightS (Lib.bytesOf xs) AA.data.toList).length- (Lib.trimS (Lib.bytesOf xs) AA.data.toList).length))/\Below w.heap.size w w':=Any.bytes_Trim_laid Tryz.laysSlV6 (by kernel_rfl) p n c xs AA w hx AE AC h1 hr AD AB
end Go.Proofs
namespace Go.Proofs.YtkanmkcojlefbaaGreatDoor
open Go.Lib
def O6 (AA:Nat):List UInt8->Nat
 | []=>AA
 |c::r=>O6 (AA*8+(c.toNat-48)) r
theorem A5E (AA:Nat) (a b:List UInt8):O6 AA (a++b)=O6 (O6 AA a) b:=by
 induction a generalizing AA with
 |nil=>rfl
 |cons c r ih=>exact ih _
theorem A3H (k:Nat) (h:k<8): (od k).toNat=48+k:=by rw[od,UInt8.toNat_ofNat'];omega
theorem A5t (u:Nat):O6 0 (E3 u)=u:=by
 induction u using Nat.strongRecOn with
 |_ u ih=>
  by_cases h:u<8
  ·rw[U4 h];show 0*8+((od u).toNat-48)=u;rw[A3H u h];omega
  ·rw[A0L (by omega),A5E,ih (u/8) (by omega)]
   show u/8*8+((od (u% 8)).toNat-48)=u
   rw[A3H _ (Nat.mod_lt _ (by omega))];omega
theorem A6y (z:Nat) (r:List UInt8):O6 0 (List.replicate z 48++r)=O6 0 r:=by
 induction z with
 |zero=>rfl
 |succ z ih=>rw[List.replicate_succ,List.cons_append];exact ih
theorem B0y (u:Nat):∀c∈E3 u,48<=c.toNat/\c.toNat<=55:=by
 induction u using Nat.strongRecOn with
 |_ u ih=>
  intro c hc;by_cases h:u<8
  ·rw[U4 h] at hc;obtain rfl:=List.mem_singleton.1 hc;rw[A3H u h];omega
  ·rw[A0L (by omega)] at hc
   rcases List.mem_append.1 hc with hc|hc
   ·exact ih (u/8) (by omega) c hc
   ·obtain rfl:=List.mem_singleton.1 hc;rw[A3H _ (Nat.mod_lt _ (by omega))];omega
def Y9 (n u:Nat):List UInt8:=List.replicate (n-1- (E3 u).length) 48++E3 u
theorem V3 (n u:Nat):C2 n u=Y9 n u++[0]:=rfl
theorem A4C (n u:Nat):O6 0 (Y9 n u)=u:=by rw[Y9,A6y,A5t]
theorem A0m (n u:Nat):∀c∈Y9 n u,48<=c.toNat/\c.toNat<=55:=by
 intro c hc;rcases List.mem_append.1 hc with hc|hc
 ·rw[List.eq_of_mem_replicate hc];decide
 ·exact B0y u c hc
end Go.Proofs.YtkanmkcojlefbaaGreatDoor
