/-
  Part of the proof; holds the texts Ref3, Ref4, HeadW, Head, Ref5.
-/
import Derived.Test.YtkanmkcojlefbaaGreatDoorM39
set_option maxHeartbeats 4000000
set_option maxRecDepth 100000
set_option linter.unusedSimpArgs false
set_option linter.unusedVariables false
namespace Go.Proofs.YtkanmkcojlefbaaGreatDoor
open Go.RowKit
def IH.scells (h:IH):List Value:=[.int .u8 h.typ,str h.name,str h.link,.int .i64 h.size,.int .i64 h.mode,.int .i64 h.uid,.int .i64 h.gid,str h.user,str h.group,.int .i64 h.ms,.int .i64 h.mn,.bool h.hasA,.bool h.hasC,.int .i64 h.ats,.int .i64 h.atn,.int .i64 h.cts,.int .i64 h.ctn,.int .i64 h.maj,.int .i64 h.mnr,h.recs,.int .i64 h.fmt]
def SB (g:Nat) (h:IH) (w:World):Prop:=w.heap[g]?=some (.cells h.scells.toArray 31 (0,0))
theorem SB.cell {g:Nat} {h:IH} {w:World} (hs:SB g h w) (k:Nat) (v:Value) (hv:h.scells[k]?=some v):w.cell? ⟨g,k,none⟩=some v:=by
 rw[Lib.cell_of_heap hs,List.getElem?_toArray];exact hv
theorem SB.below {g B:Nat} {h:IH} {w w':World} (hs:SB g h w) (hb:Below B w w') (hg:g<B):SB g h w':=(hb.block g hg).trans hs
theorem B6C (h:IH) (hr:h.recs.oneCell'=true):∀v∈h.scells,v.oneCell'=true:=by
 intro v hv;simp only[IH.scells,List.mem_cons,List.not_mem_nil,or_false] at hv;rcases hv with rfl|rfl|rfl|rfl|rfl|rfl|rfl|rfl|rfl|rfl|rfl|rfl|rfl|rfl|rfl|rfl|rfl|rfl|rfl|rfl|rfl<;>first|rfl|exact hr
theorem B2X: (Tryz.prog.info? 31).map (·.size)=some 21:=by kernel_rfl
theorem B7j:∃d,Tryz.prog.underlying 31=some d/\B1s d=true:=⟨_,Tryz.underlying31,rfl⟩
theorem SB.load {g:Nat} {h:IH} {w:World} (hs:SB g h w): (loadVar 31 ⟨g,0,none⟩).run Tryz.prog w= .ok (.agg h.scells.toArray) w:=by
 obtain⟨d,u1,u2⟩:=B7j;exact A2A w g 0 31 h.scells.toArray (At.of_heap hs (λj v hj=>by rw[Nat.zero_add];simpa using hj)) d u1 u2 (by rw[B2X];rfl)
theorem A1X {w:World} {g:Nat} {z:Array Value} (h:IH) (hr:h.recs.oneCell'=true) (hz:z.size=21) (hg:w.heap[g]?=some (.cells z 31 (0,0))):
  ∃w',(storeVar 31 ⟨g,0,none⟩ (.agg h.scells.toArray)).run Tryz.prog w= .ok () w'/\SB g h w'/\(∀k,k≠g->w'.heap[k]?=w.heap[k]?)/\(∀ (B:Nat) (w0:World),Below B w0 w->B<=g->Below B w0 w')/\w'.heap.size=w.heap.size:=by
 have hs:=A1V w g 0 31 31 z h.scells.toArray hg (by rw[B2X];rfl) (by rw[hz];exact Nat.le_refl 21) (by simpa using B6C h hr)
 have e:z.toList.take 0++h.scells.toArray.toList++z.toList.drop (0+h.scells.toArray.size)=h.scells:=by
  rw[List.take_zero,List.nil_append,List.drop_eq_nil_of_le (by rw[Array.length_toList,hz];exact Nat.le_refl 21),List.append_nil]
 rw[e] at hs;refine⟨_,hs,setRow_heap w g z _ 31 _ hg,λk hk=>setRow_other w g k _ hk,λB w0 hb hB=> ?_,by simp⟩;exact⟨hb.os,hb.tape,hb.output,by simpa using hb.size,λk hk=>(setRow_other w g k _ (by omega)).trans (hb.block k hk)⟩
theorem B0I {R:Ending->World->Prop} {fn:Func} {t:Tmp} {a:Act} (g:Nat) (cs:Array Value) (AA:cs.size=21) (w:World) (hr:fn.results=#[.cell t 31]) (hp:a.tmps.getD t undef= .pointer (some ⟨g,0,none⟩)) (hd:a.defers=[])
  (hg:w.heap[g]?=some (.cells cs 31 (0,0))) (hR:R (.returned (.agg cs)) w):bodyPost Tryz.prog fn R .ret a w:=
 bodyPost_ret (results_cell_row hr _ _ g 31 cs (0,0) _ hp hg Tryz.underlying31 rfl (by rw[AA];kernel_rfl)) hd hR
theorem A6R (l:List UInt8):T9 l=A0V l:=by
 unfold T9 A0V Lib.hasSuffix;rw[Bool.eq_iff_iff];simp only[List.isSuffixOf_iff_suffix,beq_iff_eq];constructor
 ·rintro⟨t,rfl⟩;simp
 ·intro h
  obtain⟨t,rfl⟩:=List.getLast?_eq_some_iff.1 h;exact⟨t,rfl⟩
theorem SB.setTyp {g:Nat} {h:IH} {w:World} (hs:SB g h w) (x:Int):SB g {h with typ:=x} (w.setCell ⟨g,0,none⟩ (.int .u8 x)):=by
 have:=B6 (i:=0) (.int .u8 x) hs;rw[List.setIfInBounds_toArray] at this;exact this
theorem SB.hz {g:Nat} {h:IH} {w:World} (hs:SB g h w) (k:Nat):w.frozen? ⟨g,k,none⟩=false:=Lib.frozen_of_heap hs k
def B4r (h:IH) (w:World) (e:Ending) (w':World):Prop:=e= .returned (.agg h.scells.toArray)/\Below w.heap.size w w'
structure W31 (h:IH) (hb rb:Nat) (w0 w:World):Prop where
 S:SB hb h w
 Z:∃z:Array Value,z.size=21/\w.heap[rb]?=some (.cells z 31 (0,0))
 B:Below w0.heap.size w0 w
 h0:w0.heap.size<=hb
 r0:w0.heap.size<=rb
 ne:hb≠rb
theorem W31.new (h:IH) (w:World) (z:Array Value) (hz:z.size=21):W31 h w.heap.size (w.heap.size+1) w ((w.alloc (.cells h.scells.toArray 31)).alloc (.cells z 31)):=by
 have s1: (w.alloc (.cells h.scells.toArray 31)).heap.size=w.heap.size+1:=Array.size_push ..;refine⟨(Below.heap_alloc _ _ _ (by omega)).trans (heap_alloc_new w _),⟨z,hz,?_⟩,((Below.refl _ w).alloc (Nat.le_refl _) _).alloc (by omega) _,Nat.le_refl _,by omega,by omega⟩;rw[<-s1];exact heap_alloc_new _ _
theorem W31.below {h:IH} {hb rb:Nat} {w0 w w':World} (k:W31 h hb rb w0 w) (f:Below w.heap.size w w'):W31 h hb rb w0 w':=by
 obtain⟨z,z1,z2⟩:=k.Z;exact⟨k.S.below f (A8 k.S),⟨z,z1,(f.block rb (A8 z2)).trans z2⟩,k.B.trans (f.mono k.B.size),k.h0,k.r0,k.ne⟩
theorem W31.setTyp {h:IH} {hb rb:Nat} {w0 w:World} (k:W31 h hb rb w0 w) (x:Int):W31 {h with typ:=x} hb rb w0 (w.setCell ⟨hb,0,none⟩ (.int .u8 x)):=by
 obtain⟨z,z1,z2⟩:=k.Z;exact⟨k.S.setTyp x,⟨z,z1,(C0 _ (Ne.symm k.ne)).trans z2⟩,k.B.setCell (p:=⟨hb,0,none⟩) k.h0 _,k.h0,k.r0,k.ne⟩
theorem W31.give {h:IH} {hb rb:Nat} {w0 w:World} (k:W31 h hb rb w0 w) (hr:h.recs.oneCell'=true):∃w',(storeVar 31 ⟨rb,0,none⟩ (.agg h.scells.toArray)).run Tryz.prog w= .ok () w'/\w'.heap[rb]?=some (.cells h.scells.toArray 31 (0,0))/\Below w0.heap.size w0 w':=by
 obtain⟨z,z1,z2⟩:=k.Z;obtain⟨w',h1,h2,-,h4,-⟩:=A1X h hr z1 z2;exact⟨w',h1,h2,h4 _ _ k.B k.r0⟩
theorem W31.fin {h2 h3:IH} {hb rb:Nat} {w0 w:World} (k:W31 h2 hb rb w0 w) (hr:h2.recs.oneCell'=true) (e:h2=h3):∃w',(storeVar 31 ⟨rb,0,none⟩ (.agg h2.scells.toArray)).run Tryz.prog w= .ok () w'/\w'.heap[rb]?=some (.cells h2.scells.toArray 31 (0,0))/\B4r h3 w0 (.returned (.agg h2.scells.toArray)) w':=by
 obtain⟨w',g1,g2,g3⟩:=k.give hr;exact⟨w',g1,g2,by rw[e],g3⟩
def IH.sprom (h:IH):IH:= {h with typ:=if h.typ=0 then(if A0V h.name then 53 else 48) else h.typ}
theorem A1W (h:IH) (hr:h.recs.oneCell'=true) (hn:h.name.length<4611686018427387904) (w:World):Calls Tryz.prog 26 #[.agg h.scells.toArray] w (B4r h.sprom w):=by
 go_enter Tryz.func26,Tryz.ntmps26
 go_upto_region 1 with fail
 obtain⟨wA,AC⟩:∃wA,wA=(w.alloc (.cells h.scells.toArray 31)).alloc (.cells #[.int .u8 0,.string {data:=#[]},.string {data:=#[]},.int .i64 0,.int .i64 0,.int .i64 0,.int .i64 0,.string {data:=#[]},.string {data:=#[]},.int .i64 0,.int .i64 0,.bool false,.bool false,.int .i64 0,.int .i64 0,.int .i64 0,.int .i64 0,.int .i64 0,.int .i64 0,.slice none 0 0,.int .i64 0] 31):=⟨_,rfl⟩;rw[<-AC];have KA:W31 h w.heap.size (w.heap.size+1) w wA:=by rw[AC];exact W31.new h w _ rfl
 clear AC;have ct:=KA.S.cell 0 (.int .u8 h.typ) rfl;by_cases ht:h.typ=0
 ·have cn:=(KA.setTyp 48).S.cell 1 (str h.name) rfl
  have hz:=KA.S.hz 0;have AB:=A4F h.name (wA.setCell ⟨w.heap.size,0,none⟩ (.int .u8 48)) hn;have K2:=A0 (KA.setTyp 48);cases hs:A0V h.name with
  |true=>
   rw[hs] at AB;have AD:=K2.out.S.hz 0;have K3:=A0 (K2.out.setTyp 53);obtain⟨w3,g1,g2,g3⟩:=K3.out.fin (h3:=h.sprom) (by exact hr) (by rw[IH.sprom,if_pos ht,if_pos hs]);have AA:=A0 K3.out.S.load;have G1:=A0 g1;have G2:=A0 g2;have G3:=A0 g3;clear g1 g2 g3 hs KA;go_wp2_with (first|(go_at_call 53;refine AB.mono ?_;rintro e wx ⟨rfl,rfl⟩)|(refine D3 rfl 31 _ rfl ⟨w.heap.size,0,none⟩ rfl _ AA.out ?_)|(refine E6 rfl 31 _ _ rfl ⟨w.heap.size+1,0,none⟩ rfl _ rfl w3 G1.out ?_)|fail)
   exact B0I (w.heap.size+1) _ rfl w3 rfl rfl rfl G2.out G3.out
  |false=>
   rw[hs] at AB;obtain⟨w3,g1,g2,g3⟩:=K2.out.fin (h3:=h.sprom) (by exact hr) (by rw[IH.sprom,if_pos ht,hs];rfl);have AA:=A0 K2.out.S.load;have G1:=A0 g1;have G2:=A0 g2;have G3:=A0 g3;clear g1 g2 g3 hs KA;go_wp2_with (first|(go_at_call 53;refine AB.mono ?_;rintro e wx ⟨rfl,rfl⟩)|(refine D3 rfl 31 _ rfl ⟨w.heap.size,0,none⟩ rfl _ AA.out ?_)|(refine E6 rfl 31 _ _ rfl ⟨w.heap.size+1,0,none⟩ rfl _ rfl w3 G1.out ?_)|fail)
   exact B0I (w.heap.size+1) _ rfl w3 rfl rfl rfl G2.out G3.out
 ·have KK:=A0 KA
  obtain⟨w3,g1,g2,g3⟩:=KK.out.fin (h3:=h.sprom) (by exact hr) (by rw[IH.sprom,if_neg ht]);have AA:=A0 KK.out.S.load;have G1:=A0 g1;have G2:=A0 g2;have G3:=A0 g3;clear g1 g2 g3 KA;go_wp2_with (first|(refine D3 rfl 31 _ rfl ⟨w.heap.size,0,none⟩ rfl _ AA.out ?_)|(refine E6 rfl 31 _ _ rfl ⟨w.heap.size+1,0,none⟩ rfl _ rfl w3 G1.out ?_)|fail)
  exact B0I (w.heap.size+1) _ rfl w3 rfl rfl rfl G2.out G3.out
def L1:List (List UInt8×List UInt8)->Nat
 | []=>0
 |p::L=>p.1.length+p.2.length+24+L1 L
theorem A6N (L M:List (List UInt8×List UInt8)):L1 (L++M)=L1 L+L1 M:=by
 induction L with
 |nil=>simp[L1]
 |cons p L ih=>simp only[List.cons_append,L1,ih];omega
theorem A9U (L:List (List UInt8×List UInt8)) (k:Nat) (hk:k<L.length):L1 (L.take (k+1))=L1 (L.take k)+(L[k].1.length+L[k].2.length+24):=by
 rw[List.take_succ_eq_append_getElem hk,A6N];rfl
theorem A2W (L:List (List UInt8×List UInt8)) (k:Nat):L1 (L.take k)<=L1 L:=by
 conv=>rhs;rw[<-List.take_append_drop k L,A6N]
 omega
def A0t (h:IH) (L:List (List UInt8×List UInt8)):Prop:=h.name.length+h.link.length+h.user.length+h.group.length+L1 L<=524288/\0<=h.fmt/\h.fmt<=3/\O9 h.ms h.mn/\(h.hasA=true->O9 h.ats h.atn)/\(h.hasC=true->O9 h.cts h.ctn)
def B0R (hb:Nat) (h:IH) (w0 w:World):Prop:=SB hb h w/\Below hb w0 w/\hb<w.heap.size
theorem B0R.step {hb:Nat} {h:IH} {w0 w w':World} (k:B0R hb h w0 w) (f:Below w.heap.size w w'):B0R hb h w0 w':=
 ⟨k.1.below f k.2.2,k.2.1.trans (f.mono (Nat.le_of_lt k.2.2)),Nat.lt_of_lt_of_le k.2.2 f.size⟩
theorem A4G (h:IH) (L:List (List UInt8×List UInt8)) (w:World) (hL:N5 w h.recs L) (AO:h.name.length+h.link.length+h.user.length+h.group.length+L1 L<=2305843009213693952):Calls Tryz.prog 25 #[.agg h.scells.toArray] w (B1g (A0t h L) w):=by
 have a1:SB w.heap.size h (w.alloc (.cells h.scells.toArray 31)):=heap_alloc_new w _;have hR:B0R w.heap.size h w (w.alloc (.cells h.scells.toArray 31)):=⟨a1,(Below.refl _ w).alloc (Nat.le_refl _) _,A8 a1⟩;obtain⟨p,c,hv,Ad⟩:=hL
 have Az:L.length<=L1 L:=by
  clear Ad hv AO;induction L with
  |nil=>simp
  |cons q L ih=>simp only[List.length_cons,L1];omega
 have n1:=a1.cell 1 (str h.name) rfl;have n2:=a1.cell 2 (str h.link) rfl;have n3:=a1.cell 7 (str h.user) rfl;have n4:=a1.cell 8 (str h.group) rfl;have n5:=a1.cell 19 (.slice p L.length c) (by rw[<-hv];rfl);have HR:=A0 hR;have Ap:=A0 Ad;have HV:=A0 hv;clear a1 hR Ad hv;go_enter Tryz.func25,Tryz.ntmps25
 go_upto_region 1 with fail
 obtain⟨wA,Ao⟩:∃wA,wA=w.alloc (.cells h.scells.toArray 31):=⟨_,rfl⟩;rw[<-Ao] at HR n1 n2 n3 n4 n5⊢;clear Ao;obtain⟨hb,Ae⟩:∃hb,hb=w.heap.size:=⟨_,rfl⟩;rw[<-Ae] at HR n1 n2 n3 n4 n5⊢;have AC:=A0 Ae;clear Ae;obtain⟨l0,Af⟩:∃l0,l0=h.name.length+h.link.length+h.user.length+h.group.length:=⟨_,rfl⟩;have Ac:h.name.length+h.link.length+h.user.length+h.group.length<=2305843009213693952:=by omega
 rw[<-Af] at AO;have E1:Hid ((h.name.length:Int)+h.link.length+h.user.length+h.group.length=l0):=A0 (by omega);have Aq:=A0 Af;clear Af;go_wp2_with fail
 go_loopw [24,3] (λs24 s3 wr=>∃k:Nat,s24= .int .i64 k/\s3= .int .i64 ((l0+L1 (L.take k):Nat):Int)/\k<=L.length/\Hid (B0R hb h w wr)) (λs24 _ _=>L.length- (intOf s24).toNat)
 case atStart=>exact⟨0,rfl,by rw[List.take_zero];show _=Value.int .i64 ((l0+0:Nat):Int);rw[Nat.add_zero,<-E1.out],Nat.zero_le _,HR⟩
 case round=>
  obtain⟨k,rfl,rfl,hk,hS⟩:=hrel;clear n1 n2 n3 n4 n5 HR Ac;have Ax:=A2W L k;by_cases Al:k<L.length
  ·obtain⟨rg,ro,rfl,BD,k1,k2⟩:=Ap.out k Al
   have ck:wr.cell? ⟨rg,ro+k*2,none⟩=some (str L[k].1):=(hS.out.2.1.cell (p:=⟨rg,ro+k*2,none⟩) (by have:=AC.out;show rg<hb;omega)).trans k1;have cv:wr.cell? ⟨rg,ro+k*2+1,none⟩=some (str L[k].2):=(hS.out.2.1.cell (p:=⟨rg,ro+k*2+1,none⟩) (by have:=AC.out;show rg<hb;omega)).trans k2;have ht:=A9U L k Al;have Ay:=A2W L (k+1);clear k1 k2;generalize L[k].1=kk at*;generalize L[k].2=vv at*;rw[ht] at Ay;have HT:=A0 ht;generalize Ab:L1 (L.take k)=r0 at*;clear ht Ab;have Aw:Hid (∀o,B0R hb h w (wr.alloc o)):=A0 λo=>hS.out.step ((Below.refl _ wr).alloc (Nat.le_refl _) o);go_wp2_with fail
   go_roundw
   case rel=>exact⟨k+1,by go_num,by rw[HT.out];go_num,by omega,A0 (Aw.out _)⟩
   case measure=>simp[intOf];omega
  ·obtain rfl:k=L.length:=by omega
   rw[List.take_length] at Ax⊢;have HK:Hid (l0+L1 L<=524288->0<=h.fmt->h.fmt<=3->O9 h.ms h.mn->(h.hasA=true->O9 h.ats h.atn)->(h.hasC=true->O9 h.cts h.ctn)->A0t h L):=A0 λk1 k2 k3 k4 k5 k6=>⟨by rw[<-Aq.out];exact k1,k2,k3,k4,k5,k6⟩;have BB:Hid (Below w.heap.size w wr):=A0 (by rw[<-AC.out];exact hS.out.2.1);have c20:=hS.out.1.cell 20 (.int .i64 h.fmt) rfl;generalize Ab:L1 L=r0 at*;clear Ab;by_cases hn: (524288:Int)< ((l0+r0:Nat):Int)
   ·go_wp2_with fail
    go_ret
    exact⟨true,rfl,BB.out,λh=>by cases h⟩
   ·by_cases BA:h.fmt<0
    ·go_wp2_with fail
     go_ret
     exact⟨true,rfl,BB.out,λh=>by cases h⟩
    ·by_cases BC:3<h.fmt
     ·go_wp2_with fail
      go_ret
      exact⟨true,rfl,BB.out,λh=>by cases h⟩
     ·have HN:Hid (l0+r0<=524288/\0<=h.fmt/\h.fmt<=3):=A0 (by omega)
      have Ar:=hS.out.1.cell 9 (.int .i64 h.ms) rfl;have Au:=hS.out.1.cell 10 (.int .i64 h.mn) rfl;have AR:=hS.out.1.cell 11 (.bool h.hasA) rfl;have AS:=hS.out.1.cell 12 (.bool h.hasC) rfl;have AT:=hS.out.1.cell 13 (.int .i64 h.ats) rfl;have AX:=hS.out.1.cell 14 (.int .i64 h.atn) rfl;have AV:=hS.out.1.cell 15 (.int .i64 h.cts) rfl;have AZ:=hS.out.1.cell 16 (.int .i64 h.ctn) rfl;go_wp2_with fail
      refine(A4b h.ms h.mn wr).mono ?_;rintro e w1 ⟨b1,rfl,Aj,Am⟩;clear Ar Au AR AS AT AX AV AZ;have S1:=A0 (hS.out.step Aj);have AP:=A0 Am;clear Aj Am BB;have BB:Hid (Below w.heap.size w w1):=A0 (by rw[<-AC.out];exact S1.out.2.1);have Ah:=S1.out.1.cell 9 (.int .i64 h.ms) rfl;have Ai:=S1.out.1.cell 10 (.int .i64 h.mn) rfl;have AA:=S1.out.1.cell 11 (.bool h.hasA) rfl;have AB:=S1.out.1.cell 12 (.bool h.hasC) rfl;have AG:=S1.out.1.cell 13 (.int .i64 h.ats) rfl;have AI:=S1.out.1.cell 14 (.int .i64 h.atn) rfl;have AH:=S1.out.1.cell 15 (.int .i64 h.cts) rfl;have AJ:=S1.out.1.cell 16 (.int .i64 h.ctn) rfl;cases b1 with
      |true=>
       go_wp2_with fail
       go_ret
       exact⟨true,rfl,BB.out,λh=>by cases h⟩
      |false=>
       cases ha:h.hasA with
       |false=>
        rw[ha] at AA;cases hc:h.hasC with
        |false=>
         rw[hc] at AB;go_wp2_with fail
         go_ret
         exact⟨_,rfl,BB.out,λ_=>HK.out HN.out.1 HN.out.2.1 HN.out.2.2 (AP.out (by trivial)) (λe=>by rw[ha] at e;cases e) (λe=>by rw[hc] at e;cases e)⟩
        |true=>
         rw[hc] at AB;go_wp2_with fail
         refine(A4b h.cts h.ctn w1).mono ?_;rintro e w9 ⟨b9,rfl,AL,AM⟩;clear Ah Ai AA AB AG AI AH AJ;have S9:=A0 (S1.out.step AL);have AQ:=A0 AM;clear AL AM BB;have BB:Hid (Below w.heap.size w w9):=A0 (by rw[<-AC.out];exact S9.out.2.1);cases b9 with
         |true=>
          go_wp2_with fail
          go_ret
          exact⟨true,rfl,BB.out,λh=>by cases h⟩
         |false=>
          go_wp2_with fail
          go_ret
          exact⟨_,rfl,BB.out,λ_=>HK.out HN.out.1 HN.out.2.1 HN.out.2.2 (AP.out (by trivial)) (λe=>by rw[ha] at e;cases e) (λ_=>AQ.out (by trivial))⟩
       |true=>
        rw[ha] at AA;go_wp2_with fail
        refine(A4b h.ats h.atn w1).mono ?_;rintro e w2 ⟨b2,rfl,Ak,An⟩;clear Ah Ai AA AB AG AI AH AJ;have S2:=A0 (S1.out.step Ak);have Ag:=A0 An;clear Ak An BB;have BB:Hid (Below w.heap.size w w2):=A0 (by rw[<-AC.out];exact S2.out.2.1);have As:=S2.out.1.cell 9 (.int .i64 h.ms) rfl;have Av:=S2.out.1.cell 10 (.int .i64 h.mn) rfl;have AE:=S2.out.1.cell 11 (.bool h.hasA) rfl;have AD:=S2.out.1.cell 12 (.bool h.hasC) rfl;have AU:=S2.out.1.cell 13 (.int .i64 h.ats) rfl;have AY:=S2.out.1.cell 14 (.int .i64 h.atn) rfl;have AW:=S2.out.1.cell 15 (.int .i64 h.cts) rfl;have Aa:=S2.out.1.cell 16 (.int .i64 h.ctn) rfl;rw[ha] at AE;cases b2 with
        |true=>
         go_wp2_with fail
         go_ret
         exact⟨true,rfl,BB.out,λh=>by cases h⟩
        |false=>
         cases hc:h.hasC with
         |false=>
          rw[hc] at AD;go_wp2_with fail
          go_ret
          exact⟨_,rfl,BB.out,λ_=>HK.out HN.out.1 HN.out.2.1 HN.out.2.2 (AP.out (by trivial)) (λ_=>Ag.out (by trivial)) (λe=>by rw[hc] at e;cases e)⟩
         |true=>
          rw[hc] at AD;go_wp2_with fail
          refine(A4b h.cts h.ctn w2).mono ?_;rintro e w9 ⟨b9,rfl,AL,AM⟩;clear As Av AE AD AU AY AW Aa;have S9:=A0 (S2.out.step AL);have AQ:=A0 AM;clear AL AM BB;have BB:Hid (Below w.heap.size w w9):=A0 (by rw[<-AC.out];exact S9.out.2.1);cases b9 with
          |true=>
           go_wp2_with fail
           go_ret
           exact⟨true,rfl,BB.out,λh=>by cases h⟩
          |false=>
           go_wp2_with fail
           go_ret
           exact⟨_,rfl,BB.out,λ_=>HK.out HN.out.1 HN.out.2.1 HN.out.2.2 (AP.out (by trivial)) (λ_=>Ag.out (by trivial)) (λ_=>AQ.out (by trivial))⟩
theorem B3z {w:World} {g:Nat} {cs:Array Value} {T:TypeId} (h:w.heap[g]?=some (.cells cs T (0,0))) (i:Nat) (v:Value) (hv:cs[i]?=some v):w.cell? ⟨g,i,none⟩=some v:=by
 rw[Lib.cell_of_heap h];exact hv
theorem B8r:∃d,Tryz.prog.underlying 26=some d/\d.isRow=true:=⟨_,Tryz.underlying26,rfl⟩
theorem A6z {w:World} {g:Nat} {cs:List Value} {T:TypeId} (h:w.heap[g]?=some (.cells cs.toArray T (0,0))):w.rangeAt g 0 cs:=λj v hv=>by
 rw[Nat.zero_add];exact B3z h j v (by simpa using hv)
noncomputable def B8v (w:World) (cs:Array Value):World:=(w.alloc (.cells cs 26)).alloc (.cells #[.slice none 0 0,.int .i64 0,.int .i8 0] 70)
theorem B2S (w:World) (d0 d1 d2 d3 d4 d5 d6 d7 d8 d9 aA aB aC aD aF aG aH aI aJ aK aL:Value) (b tw:Nat) (AV:b=w.heap.size+1) (A1 A3:World->Prop) (A2:Nat->World->Prop) (A4:Value->World->Prop) (wA:World) (AM:wA=(w.alloc (.cells #[d0,d1,d2,d3,d4,d5,d6,d7,d8,d9,aA,aB,aC,aD,aF,aG,aH,aI,aJ,aK,aL] 26)).alloc (.cells #[.slice none 0 0,.int .i64 0,.int .i8 0] 70)) (AL:wA.heap[w.heap.size]?=some (.cells #[d0,d1,d2,d3,d4,d5,d6,d7,d8,d9,aA,aB,aC,aD,aF,aG,aH,aI,aJ,aK,aL] 26 (0,0)))
  (h1:Calls Tryz.prog 29 #[.iface 75 (.pointer (some ⟨b,0,none⟩))] wA.drew λe w1=>e= .returned (.pointer (some ⟨tw,0,none⟩))/\w1.heap[w.heap.size]?=some (.cells #[d0,d1,d2,d3,d4,d5,d6,d7,d8,d9,aA,aB,aC,aD,aF,aG,aH,aI,aJ,aK,aL] 26 (0,0))/\A1 w1)
  (h2:∀w1,A1 w1->Calls Tryz.prog 31 #[.agg #[d0,d1,d2,d3,d4,d5,d6,d7,d8,d9,aA,aB,aC,aD,aF,aG,aH,aI,aJ,aK,aL]] w1 λe w2=>∃oh,e= .returned (.pointer (some ⟨oh,0,none⟩))/\(w1.heap[w.heap.size]?=some (.cells #[d0,d1,d2,d3,d4,d5,d6,d7,d8,d9,aA,aB,aC,aD,aF,aG,aH,aI,aJ,aK,aL] 26 (0,0))->w2.heap[w.heap.size]?=some (.cells #[d0,d1,d2,d3,d4,d5,d6,d7,d8,d9,aA,aB,aC,aD,aF,aG,aH,aI,aJ,aK,aL] 26 (0,0)))/\A2 oh w2)
  (h3:∀oh w2,A2 oh w2->Calls Tryz.prog 30 #[.pointer (some ⟨tw,0,none⟩),.pointer (some ⟨oh,0,none⟩)] w2 λe w3=>e= .returned .nilIface/\(w2.heap[w.heap.size]?=some (.cells #[d0,d1,d2,d3,d4,d5,d6,d7,d8,d9,aA,aB,aC,aD,aF,aG,aH,aI,aJ,aK,aL] 26 (0,0))->w3.heap[w.heap.size]?=some (.cells #[d0,d1,d2,d3,d4,d5,d6,d7,d8,d9,aA,aB,aC,aD,aF,aG,aH,aI,aJ,aK,aL] 26 (0,0)))/\A3 w3)
  (h4:∀w3,A3 w3->Calls Tryz.prog 32 #[.pointer (some ⟨b,0,none⟩)] w3 λe w4=>∃v,e= .returned v/\A4 v w4):
  Calls Tryz.prog 10 #[.agg #[d0,d1,d2,d3,d4,d5,d6,d7,d8,d9,aA,aB,aC,aD,aF,aG,aH,aI,aJ,aK,aL]] w λe w'=>∃v,e= .returned (.tuple #[v,.int .i64 0])/\A4 v w':=by
 obtain⟨aM,AA,AB⟩:=B8r;have AO:=A0 AA;clear AA;have H1:=A0 h1;have H2:=A0 h2;have H3:=A0 h3;have H4:=A0 h4;have AG:=A0 AM;have AE:=A0 AL;subst AV;clear h1 h2 h3 h4 AM AL;go_enter Tryz.func10,Tryz.ntmps10
 go_upto_region 2 with fail
 rw[<-AG.out];have AX:=A8 AE.out;clear AG;refine wp_region_held_drew (S:=λw'=>w'.heap[w.heap.size]?=some (.cells #[d0,d1,d2,d3,d4,d5,d6,d7,d8,d9,aA,aB,aC,aD,aF,aG,aH,aI,aJ,aK,aL] 26 (0,0))) (by kernel_rfl) ?_ (λhHeld=> ?_)
 ·exact AE.out
 refine wpAnyH_take (i:=0) (v:= ?v1) rfl (by kernel_rfl) (by kernel_rfl) (by kernel_rfl) (λ_ _ _ h=>h) (Or.inl ⟨by rfl,?hy1⟩) (by assumption) ?rest1
 case hy1=>intro w AU;go_simp;try with_reducible rfl
 try simp only[Act.put,C5,C6,C7]
 refine' wpAnyH_take (i:=2) rfl (by kernel_rfl) (by kernel_rfl) (by kernel_rfl) (λ_ _ _ h=>h) (yieldsIf_load_mid (by rfl) _ _ rfl _ _ rfl [d0,d1,d2,d3,d4,d5,d6,d7,d8,d9,aA,aB,aC,aD,aF,aG,aH,aI,aJ,aK,aL] aM ?hS AO.out AB ?hi) (by assumption) ?rest2
 case hS=>exact λw' AW=>A6z AW
 case hi=>kernel_rfl
 try simp only[Act.put,C5,C6,C7]
 refine wpAnyH_ready (rs:=[1]) (by kernel_rfl) (by simp) ?_;refine AllReadyH.cons rfl (λK hK=> ?_) AllReadyH.nil;go_simp
 go_at_call 29
 refine H1.out.mono ?_;rintro e w1 ⟨rfl,AH,ha1⟩;have AC:=A0 AH;have AP:=A0 ha1;clear AH ha1;refine hK.out _ _ AC.out (λhHeld=> ?_);clear hK K;try simp only[Act.put,C5,C6,C7]
 refine wpAnyH_ready (rs:=[3]) (by kernel_rfl) (by simp) ?_;refine AllReadyH.cons rfl (λK hK=> ?_) AllReadyH.nil;go_simp
 go_at_call 31
 refine(H2.out _ AP.out).mono ?_;rintro e w2 ⟨oh,rfl,AI,ha2⟩;have AD:=A0 (AI AC.out);have AQ:=A0 ha2;clear AI ha2;refine hK.out _ _ AD.out (λhHeld=> ?_);clear hK K;try simp only[Act.put,C5,C6,C7]
 refine wpAnyH_ready (rs:=[4]) (by kernel_rfl) (by simp) ?_;refine AllReadyH.cons rfl (λK hK=> ?_) AllReadyH.nil;go_simp
 go_at_call 30
 refine(H3.out oh _ AQ.out).mono ?_;rintro e w3 ⟨rfl,AJ,ha3⟩;have AT:=A0 (AJ AD.out);have AR:=A0 ha3;clear AJ ha3;refine hK.out _ _ AT.out (λhHeld=> ?_);clear hK K;try simp only[Act.put,C5,C6,C7]
 refine wpAnyH_take (i:=5) (v:= ?v3) rfl (by kernel_rfl) (by kernel_rfl) (by kernel_rfl) (λ_ _ _ h=>h) (Or.inl ⟨by rfl,?hy3⟩) (by assumption) ?rest3
 case hy3=>intro w AU;go_simp;try with_reducible rfl
 try simp only[Act.put,C5,C6,C7]
 refine wpAnyH_done (by kernel_rfl) ?_ _;go_wp2_with fail
 refine(H4.out _ AR.out).mono ?_;rintro e w4 ⟨v,rfl,ha4⟩;have AS:=A0 ha4;clear ha4;go_wp2_with fail
 refine(A6m _).mono ?_;rintro e w5 ⟨rfl,rfl⟩;go_wp2_with fail
 go_ret2
 exact⟨v,rfl,AS.out⟩
theorem Fr.below_to {B B0:Nat} {S:List Nat} {w w':World} (f:Fr B S w w') (hB:B0<=B) (hw:B0<=w.heap.size) (hS:∀k∈S,B0<=k):Below B0 w w':=
 ⟨f.os,f.tape,f.output,f.size,λi hi=>by
  obtain⟨o,ho⟩:∃o,w.heap[i]?=some o:=⟨_,Array.getElem?_eq_getElem (by omega)⟩;rw[ho];exact f.same ho (λhm=>by have:=hS i hm;omega) (.inl (by omega))⟩
def NWF (b fw tw:Nat) (w:World):Prop:=FW fw b 0 w/\TW tw b fw 0 A5p A0d .nilIface w/\W3 b b [] w/\b<tw/\b<fw
def IHF (oh:Nat) (H:Hd) (R:KV) (w:World):Prop:=w.heap[oh]?=some (.cells H.cells.toArray 130 (0,0))/\J4 w H.recs R w.heap.size
theorem NWF.below {b fw tw:Nat} {w w':World} (h:NWF b fw tw w) (f:Below w.heap.size w w'):NWF b fw tw w':=
 ⟨(f.block fw (A8 h.1)).trans h.1,⟨(f.block tw (A8 h.2.1.1)).trans h.2.1.1,h.2.1.2⟩,h.2.2.1.carry (B':=w.heap.size) (S:=[]) (Fr.of_below f _ _) (Nat.le_refl _) (by simp) (by simp),h.2.2.2⟩
theorem B2L {w w':World} (h:Fr w.heap.size [] w w'):Below w.heap.size w w':=h.below_of (Nat.le_refl _) (by simp)
theorem A9T (G0:Nat) (E:Nat->Addr) (b fw tw oh:Nat) (H:Hd) (R:KV) (AA:Bool) (f:Bool×Bool×Bool) (m:KV) (w:World) (h1:NWF b fw tw w) (h2:IHF oh H R w) (AE:Gl G0 E w) (AD:G0<=b) (AH:H.fmt=0->0<=H.mw/\H.mw<1000000000/\H.mw≠500000000/\-4611686018427387904<=H.mx/\H.mx<=4611686018427387904) (AG:HOk H.prom.rnd R AA f m) (AC:H.xattr.oneCell'=true) (AB:H.recs.oneCell'=true)
  (sz:Int) (AI:sz=if D1 H.prom.typ then 0 else H.size):
  Calls Tryz.prog 30 #[.pointer (some ⟨tw,0,none⟩),.pointer (some ⟨oh,0,none⟩)] w λe w'=>e= .returned .nilIface/\A9x b tw b f m H.prom.rnd [] sz w w':=
 A8c G0 E b tw b fw 0 oh A5p H R AA f m (List.replicate 512 0) [] w h1.2.1 h1.2.2.1 h1.1 AE AD (by have:=h1.2.2.2.1;omega) (by have:=h1.2.2.2.2;omega) (Nat.le_of_lt h1.2.2.1.lt) List.length_replicate (by omega) h2.1 AH AG h2.2 AC AB sz AI (by simp)
theorem A4O.recs0 {f:Bool×Bool×Bool} {m:KV} {H:Hd} {rv AB:Value} {AA:List UInt8} (k:A4O f m {H with recs:=rv} AA):A4O f m {H with recs:=AB} AA:=by
 rcases k with ⟨h1,B2,u,h3⟩|⟨h1,h2,B2,X,p,px,h3⟩|⟨h1,h2,B2,X,Y,p,x,y,h3⟩
 ·exact .inl ⟨h1,B2,⟨u.ok,u.typ,u.name,u.link,u.user,u.group,u.mode,u.uid,u.gid,u.size,u.mtime,u.maj,u.mnr,u.magic,u.ver,u.chk,u.rest⟩,h3⟩
 ·exact .inr (.inl ⟨h1,h2,B2,X,⟨p.ok,p.typ,p.name,p.link,p.user,p.group,p.mode,p.uid,p.gid,p.size,p.mtime,p.maj,p.mnr,p.magic,p.ver,p.chk,p.rest⟩,px,h3⟩)
 ·exact .inr (.inr ⟨h1,h2,B2,X,Y,⟨p.ok,p.typ,p.name,p.link,p.user,p.group,p.mode,p.uid,p.gid,p.size,p.mtime,p.maj,p.mnr,p.magic,p.ver,p.chk,p.rest⟩,x,y,h3⟩)
theorem B1B (h:IH) (rv:Value): ({h.hd2 with recs:=rv}:Hd).prom.rnd= {h.hd2.prom.rnd with recs:=rv}:=by
 by_cases hf:h.hd2.fmt=0
 ·have h1: ({h.hd2 with recs:=rv}:Hd).prom.fmt=0:=hf
  have h2:h.hd2.prom.fmt=0:=hf;unfold Hd.rnd;rw[if_pos h1,if_pos h2];rfl
 ·have h1:¬({h.hd2 with recs:=rv}:Hd).prom.fmt=0:=hf
  have h2:¬h.hd2.prom.fmt=0:=hf;unfold Hd.rnd;rw[if_neg h1,if_neg h2];rfl
theorem A4O.recs {f:Bool×Bool×Bool} {m:KV} {h:IH} {rv AB:Value} {AA:List UInt8} (k:A4O f m ({h.hd2 with recs:=rv}:Hd).prom.rnd AA):A4O f m ({h.hd2 with recs:=AB}:Hd).prom.rnd AA:=by
 rw[B1B] at k⊢;exact k.recs0
theorem N5.below {w w':World} {v:Value} {L:List (List UInt8×List UInt8)} (h:N5 w v L) (f:Below w.heap.size w w'):N5 w' v L:=by
 obtain⟨p,c,hv,hc⟩:=h;refine⟨p,c,hv,λj hj=> ?_⟩;obtain⟨rg,ro,h1,h2,h3,h4⟩:=hc j hj;exact⟨rg,ro,h1,Nat.lt_of_lt_of_le h2 f.size,(f.cell (p:=⟨rg,ro+j*2,none⟩) h2).trans h3,(f.cell (p:=⟨rg,ro+j*2+1,none⟩) h2).trans h4⟩
theorem A8y {G0:Nat} {E:Nat->Addr} {b fw oh:Nat} {H:Hd} {rv:Value} {R:KV} {w1 w2:World} (h1:FW fw b 0 w1/\TW (fw+1) b fw 0 A5p A0d .nilIface w1/\W3 b b [] w1) (AA:b<fw) (f:Below w1.heap.size w1 w2) (AB:w2.heap[oh]?=some (.cells ({H with recs:=rv}:Hd).cells.toArray 130 (0,0))) (AC:J4 w2 rv R w2.heap.size) (hg:Gl G0 E w2):
  NWF b fw (fw+1) w2/\IHF oh {H with recs:=rv} R w2/\Gl G0 E w2:=
 ⟨NWF.below ⟨h1.1,h1.2.1,h1.2.2,by omega,AA⟩ f,⟨AB,AC⟩,hg⟩
theorem B3b {B tw b:Nat} {f:Bool×Bool×Bool} {m:KV} {H:Hd} {bs:List UInt8} {sz:Int} {w w':World} (h:A9x B tw b f m H bs sz w w') {g:Nat} {o:Obj} (hg:w.heap[g]?=some o) (h1:g≠b) (h2:g≠tw) (h3:g<B):w'.heap[g]?=some o:=by
 obtain⟨AC,AD,AB,AA,-,-,-,-,-,-,-,hF⟩:=h;exact hF.same hg (by simp;exact⟨h1,h2⟩) (.inl h3)
theorem B2V (G0:Nat) (E:Nat->Addr) (w:World) (AP:Gl G0 E w) (h:IH) (Ab:h.In) (L:List (List UInt8×List UInt8)) (hL:N5 w h.recs L) (AU:L.length<=1048576) (AV:∀p∈L,p.1.length<=9223372036854775807/\p.2.length<=9223372036854775807) (Af:h.hd2.fmt=0->0<=h.hd2.mw/\h.hd2.mw<1000000000/\h.hd2.mw≠500000000/\-4611686018427387904<=h.hd2.mx/\h.hd2.mx<=4611686018427387904) (AD:Bool) (f:Bool×Bool×Bool) (m:KV) (Ad:∀rv,HOk ({h.hd2 with recs:=rv}:Hd).prom.rnd (E0 (λ_=>none) L) AD f m):
  Calls Tryz.prog 10 #[.agg h.cells.toArray] w λe w'=>∃v AA,e= .returned (.tuple #[v,.int .i64 0])/\A4O f m ({h.hd2 with recs:= .map none}:Hd).prom.rnd AA/\w'.ownsRow w.heap.size 5 1 v AA.length (Lib.byteCells AA)/\Below w.heap.size w w':=by
 have AM:=heap_alloc_new w (.cells h.cells.toArray 26);have Ai:∃wA:World,wA=(w.alloc (.cells h.cells.toArray 26)).alloc (.cells #[.slice none 0 0,.int .i64 0,.int .i8 0] 70):=⟨_,rfl⟩;obtain⟨wA,AG⟩:=Ai;have AH: (w.alloc (.cells h.cells.toArray 26)).heap.size=w.heap.size+1:=Array.size_push ..;have Am:wA.heap.size=w.heap.size+1+1:=by rw[AG];show((w.alloc (.cells h.cells.toArray 26)).heap.push _).size=_;rw[Array.size_push,AH]
 have AT:Below w.heap.size w wA:=by rw[AG];exact((Below.refl _ w).alloc (Nat.le_refl _) _).alloc (by rw[AH];omega) _
 have AO:wA.heap[w.heap.size]?=some (.cells h.cells.toArray 26 (0,0)):=by
  rw[AG];exact(Below.heap_alloc _ _ _ (by rw[AH];omega)).trans AM
 have AL:W3 (w.heap.size+1) (w.heap.size+1) [] wA:=by
  have:=Lib.fresh_isBuffer 70 5 (w.alloc (.cells h.cells.toArray 26));rw[AH] at this;rw[AG];exact this
 have AQ:w.heap.size<wA.heap.size:=by omega
 have AW:w.heap.size+1<wA.heap.size:=by omega
 refine Calls.mono (B2S w _ _ _ _ _ _ _ _ _ _ _ _ _ _ _ _ _ _ _ _ _ (w.heap.size+1) (wA.heap.size+1) rfl
  (λw1=>(FW wA.heap.size (w.heap.size+1) 0 w1/\TW (wA.heap.size+1) (w.heap.size+1) wA.heap.size 0 A5p A0d .nilIface w1/\W3 (w.heap.size+1) (w.heap.size+1) [] w1)/\Below w.heap.size w w1/\wA.heap.size<=w1.heap.size)
  (λw3=>∃AA,A4O f m ({h.hd2 with recs:= .map none}:Hd).prom.rnd AA/\W3 (w.heap.size+1) (w.heap.size+1) AA w3/\Below w.heap.size w w3)
  (λoh w2=>∃rv,NWF (w.heap.size+1) wA.heap.size (wA.heap.size+1) w2/\IHF oh {h.hd2 with recs:=rv} (E0 (λ_=>none) L) w2/\Gl G0 E w2/\rv.oneCell'=true/\Below w.heap.size w w2/\wA.heap.size<=w2.heap.size)
  (λv w'=>∃AA,A4O f m ({h.hd2 with recs:= .map none}:Hd).prom.rnd AA/\w'.ownsRow w.heap.size 5 1 v AA.length (Lib.byteCells AA)/\Below w.heap.size w w') wA AG AO ?_ ?_ ?_ ?_) ?_
 ·refine(A6G _ _).mono ?_
  rintro e w1 ⟨rfl,Aa,Ah,AZ,AX⟩;have AJ:Below wA.heap.size wA.drew w1:=B2L (w:=wA.drew) AZ;exact⟨rfl,(AJ.block _ AQ).trans AO,⟨Aa,Ah,AX _ _ _ AL⟩,AT.drew.trans (AJ.mono (Nat.le_of_lt AQ)),AJ.size⟩
 ·rintro w1 ⟨h1,AI,Ag⟩
  refine(A9B w1 h Ab L (hL.below AI) AU AV).mono ?_;rintro e w2 ⟨oh,rv,rfl,Ac,Ae,AC,Ak,AB⟩;have AE:Below w.heap.size w w2:=AI.trans (AC.mono AI.size);have hr:=A8y h1 AW AC Ac Ae (AP.below AE);exact⟨oh,rfl,λhg=>(AC.block _ (A8 hg)).trans hg,rv,hr.1,hr.2.1,hr.2.2,AB,AE,Nat.le_trans Ag AC.size⟩
 ·rintro oh w2 ⟨rv,h1,h2,h3,AB,AC,Al⟩
  refine(A9T G0 E (w.heap.size+1) wA.heap.size (wA.heap.size+1) oh {h.hd2 with recs:=rv} _ AD f m w2 h1 h2 h3 (by have:=AP.le;omega) Af (Ad rv) rfl AB _ rfl).mono ?_;rintro e w3 ⟨rfl,AR⟩;refine⟨rfl,λhg=>B3b AR hg (by omega) (by omega) (by omega),?_⟩;obtain⟨Aj,AA,AY,AS,t1,t2,t3,t4,t5,t6,t7,t8⟩:=AR;exact⟨AA,t1.recs,by simpa using t2,AC.trans (t8.below_to (by omega) (by omega) (by simp;omega))⟩
 ·rintro w3 ⟨AA,h1,h2,h3⟩
  refine(A7W _ _ _ w3 h2).mono ?_;rintro e w4 ⟨v,rfl,hv,n,rfl⟩;exact⟨v,rfl,AA,h1,A1v hv (by omega),bdn h3 n⟩
 ·rintro e w' ⟨v,rfl,AA,h1,h2,h3⟩
  exact⟨v,AA,rfl,h1,h2,h3⟩
def A9r (p:List UInt8×List UInt8):Prop:=p.1.length<=2147483647/\p.2.length<=2147483647
theorem B1Q (k v:List UInt8) (w:World):Calls Tryz.prog 51 #[.agg #[str k,str v]] w (A5y (A9r (k,v)) w):=by
 have a1:=heap_alloc_new w (.cells #[str k,str v] 59);have c0: (w.alloc (.cells #[str k,str v] 59)).cell? ⟨w.heap.size,0,none⟩=some (str k):=by rw[Lib.cell_of_heap a1];rfl
 have c1: (w.alloc (.cells #[str k,str v] 59)).cell? ⟨w.heap.size,1,none⟩=some (str v):=by rw[Lib.cell_of_heap a1];rfl
 have hb:=A0 (λo=>(Below.refl w.heap.size w).alloc (Nat.le_refl _) o);clear a1;by_cases h1: (2147483647:Int)<k.length
 ·go_enter Tryz.func51,Tryz.ntmps51
  go_wp2_with fail
  go_ret
  exact⟨false,rfl,hb.out _,λh=>by cases h⟩
 ·by_cases h2: (2147483647:Int)<v.length
  ·go_enter Tryz.func51,Tryz.ntmps51
   go_wp2_with fail
   go_ret
   exact⟨false,rfl,hb.out _,λh=>by cases h⟩
  ·have HF:Hid (A9r (k,v)):=A0 ⟨by show k.length<=_;omega,by show v.length<=_;omega⟩
   go_enter Tryz.func51,Tryz.ntmps51
   go_wp2_with fail
   go_ret
   exact⟨true,rfl,hb.out _,λh=>HF.out⟩
def A9q (L:List (List UInt8×List UInt8)):Prop:=L.length<=2147483647/\∀p∈L,A9r p
theorem B1P (rv:Value) (L:List (List UInt8×List UInt8)) (w:World) (hL:N5 w rv L) (AJ:L.length<=9223372036854775807):Calls Tryz.prog 24 #[rv] w (A5y (A9q L) w):=by
 obtain⟨p,c,rfl,AC⟩:=hL;have AH:=A0 AC;clear AC;by_cases h1: (2147483647:Int)<L.length
 ·go_enter Tryz.func24,Tryz.ntmps24
  go_wp2_with fail
  go_ret
  exact⟨false,rfl,Below.refl _ _,λh=>by cases h⟩
 ·go_enter Tryz.func24,Tryz.ntmps24
  go_wp2_with fail
  go_loopw [10] (λs10 wr=>∃k:Nat,s10= .int .i64 k/\k<=L.length/\Hid (∀ (j:Nat) q,j<k->L[j]?=some q->A9r q)/\Hid (Below w.heap.size w wr)) (λs10 _=>L.length- (intOf s10).toNat)
  case atStart=>exact⟨0,rfl,Nat.zero_le _,A0 (λj q h=>by omega),A0 (Below.refl _ _)⟩
  case round=>
   obtain⟨k,rfl,hk,hF,hB⟩:=hrel;by_cases AD:k<L.length
   ·obtain⟨rg,ro,rfl,AG,k1,k2⟩:=AH.out k AD
    have ck:wr.cell? ⟨rg,ro+k*2,none⟩=some (str L[k].1):=(hB.out.cell (p:=⟨rg,ro+k*2,none⟩) AG).trans k1;have cv:wr.cell? ⟨rg,ro+k*2+1,none⟩=some (str L[k].2):=(hB.out.cell (p:=⟨rg,ro+k*2+1,none⟩) AG).trans k2;have HK:=A0 (List.getElem?_eq_getElem AD);generalize L[k]=q at*;obtain⟨kk,vv⟩:=q;clear k1 k2;go_wp2_with fail
    refine(B1Q kk vv _).mono ?_;rintro e w2 ⟨b,rfl,AB,AE⟩;have AI:=A0 AE;have AA:Hid (Below w.heap.size w w2):=A0 ((hB.out.alloc hB.out.size _).trans (AB.mono (by have:=hB.out.size;simp;omega)));clear AB AE;cases b with
    |false=>
     go_wp2_with fail
     go_ret
     exact⟨false,rfl,AA.out,λh=>by cases h⟩
    |true=>
     go_wp2_with fail
     go_roundw
     case rel=>exact⟨k+1,by go_num,by omega,A0 (λj q hj hq=>if h:j=k then by rw[h,HK.out] at hq;cases hq;exact AI.out (by trivial) else hF.out j q (by omega) hq),AA⟩
     case measure=>simp[intOf];omega
   ·have HF:Hid (A9q L):=A0 ⟨by omega,λq hq=>by
     obtain⟨j,hj,e⟩:=List.getElem_of_mem hq;exact hF.out j q (by omega) (by rw[List.getElem?_eq_getElem hj,e])⟩
    go_wp2_with fail
    go_ret
    exact⟨true,rfl,hB.out,λh=>HF.out⟩
def B4n (h:IH) (L:List (List UInt8×List UInt8)):Prop:=h.name.length<=2147483647/\h.link.length<=2147483647/\h.user.length<=2147483647/\h.group.length<=2147483647/\A9q L
theorem B1O (h:IH) (L:List (List UInt8×List UInt8)) (w:World) (hL:N5 w h.recs L) (AG:L.length<=9223372036854775807):Calls Tryz.prog 7 #[.agg h.cells.toArray] w (A5y (B4n h L) w):=by
 have a1:IHC w.heap.size h (w.alloc (.cells h.cells.toArray 26)):=heap_alloc_new w _;have AA:=(Below.refl w.heap.size w).alloc (Nat.le_refl _) (.cells h.cells.toArray 26)
 have cc:∀ (k:Nat) (v:Value),h.cells[k]?=some v->(w.alloc (.cells h.cells.toArray 26)).cell? ⟨w.heap.size,k,none⟩=some v:=λk v hv=>by
  rw[Lib.cell_of_heap a1,List.getElem?_toArray];exact hv
 have n1:=cc 1 (str h.name) rfl;have n2:=cc 2 (str h.link) rfl;have n3:=cc 7 (str h.user) rfl;have n4:=cc 8 (str h.group) rfl;have n5:=cc 19 h.recs rfl;have hs:w.heap.size< (w.alloc (.cells h.cells.toArray 26)).heap.size:=A8 a1;have h4:=A0 (B1P h.recs L (w.alloc (.cells h.cells.toArray 26)) (hL.below AA) AG);have HB:=A0 AA;have HS:=A0 hs;clear a1 cc hL AA hs;by_cases f1: (2147483647:Int)<h.name.length
 ·go_enter Tryz.func7,Tryz.ntmps7
  go_wp2_with fail
  go_ret
  exact⟨false,rfl,HB.out,λh=>by cases h⟩
 ·by_cases f2: (2147483647:Int)<h.link.length
  ·go_enter Tryz.func7,Tryz.ntmps7
   go_wp2_with fail
   go_ret
   exact⟨false,rfl,HB.out,λh=>by cases h⟩
  ·by_cases f3: (2147483647:Int)<h.user.length
   ·go_enter Tryz.func7,Tryz.ntmps7
    go_wp2_with fail
    go_ret
    exact⟨false,rfl,HB.out,λh=>by cases h⟩
   ·by_cases f4: (2147483647:Int)<h.group.length
    ·go_enter Tryz.func7,Tryz.ntmps7
     go_wp2_with fail
     go_ret
     exact⟨false,rfl,HB.out,λh=>by cases h⟩
    ·have HF:Hid (A9q L->B4n h L):=A0 λk=>⟨by omega,by omega,by omega,by omega,k⟩
     go_enter Tryz.func7,Tryz.ntmps7
     go_wp2_with fail
     refine h4.out.mono ?_;rintro e w2 ⟨b,rfl,AC,AD⟩;have AE:=A0 AD;have AB:Hid (Below w.heap.size w w2):=A0 (HB.out.trans (AC.mono (Nat.le_of_lt HS.out)));clear AC AD;cases b with
     |false=>
      go_wp2_with fail
      go_ret
      exact⟨false,rfl,AB.out,λh=>by cases h⟩
     |true=>
      go_wp2_with fail
      go_ret
      exact⟨true,rfl,AB.out,λh=>HF.out (AE.out (by trivial))⟩
end Go.Proofs.YtkanmkcojlefbaaGreatDoor
