/-
  Part of the proof; holds the texts Wan.
-/
import Derived.Test.YtkanmkcojlefbaaGreatDoorM46
set_option maxHeartbeats 8000000
set_option maxRecDepth 100000
set_option linter.unusedSimpArgs false
set_option linter.unusedVariables false
namespace Go.Proofs.YtkanmkcojlefbaaGreatDoor
open Go.RowKit
def A6L:List FI->Nat
 | []=>0
 |f::F=>f.ds.length+A6L F
theorem B6c (A B:List FI):A6L (A++B)=A6L A+A6L B:=by
 induction A with
 |nil=>simp[A6L]
 |cons a A ih=>simp only[List.cons_append,A6L,ih];omega
theorem C0G (F:List FI):A6L F<=szs F:=by
 induction F with
 |nil=>exact zB _
 |cons a A ih=>simp only[A6L,szs,FI.sz];omega
theorem B9P {F:List FI} {f:FI} (h:f∈F):f.sz<=szs F:=by
 induction F with
 |nil=>cases h
 |cons a A ih=>
  rw[szs];rcases List.mem_cons.1 h with rfl|h
  ·omega
  ·have:=ih h;omega
theorem B6o (F:List FI) (k:Nat):A6L (F.take k)<=A6L F:=by
 have:=B6c (F.take k) (F.drop k);rw[List.take_append_drop] at this;omega
def B9A (f:FI) (W:IH):Prop:=
 (f.h.typ≠103/\B1h ({f.h with recs:=W.recs}:IH) f.L W/\(A4u W.typ=true->(f.ds.length:Int)=W.size)/\(A4u W.typ=false->f.ds=[]))\/(f.h.typ=103/\W= {f.h with recs:=W.recs}/\B6W f.h f.L/\f.ds=[])
def B6a (B:Nat) (w:World) (f:FI) (x:List Value):Prop:=∃W:IH,x=W.scells++[f.dv]/\B9A f W/\N5 w W.recs f.L/\A7M W.recs/\B8z w B 108 W.recs
def C0T (T:TypeId) (B:Nat) (w w':World):Prop:=∀k o,w.heap[k]?=some o->B<=k->(∀c fz,o≠ .cells c T fz)->w'.heap[k]?=some o
theorem B6a.keep {w w':World} {B:Nat} {f:FI} {x:List Value} (h:B6a B w f x) (hk:C0T 101 B w w'):B6a B w' f x:=by
 obtain⟨W,h1,h2,⟨p,c,hv,hc⟩,h4,h5⟩:=h;refine⟨W,h1,h2,⟨p,c,hv,λj hj=> ?_⟩,h4,λp n c e=> ?_⟩
 ·obtain⟨rg,ro,rfl,k1,k2,k3⟩:=hc j hj
  obtain⟨q1,cur,fz,q2⟩:=h5 _ _ _ hv;have q3:=hk _ _ q2 q1 (λc fz e=>by cases e);exact⟨rg,ro,rfl,A8 q3,(zZ (a:=⟨rg,ro+j*2,none⟩) (q3.trans q2.symm)).trans k2,(zZ (a:=⟨rg,ro+j*2+1,none⟩) (q3.trans q2.symm)).trans k3⟩
 ·obtain⟨q1,cur,fz,q2⟩:=h5 _ _ _ e
  exact⟨q1,cur,fz,hk _ _ q2 q1 (λc fz e=>by cases e)⟩
structure WSt (F:List FI) (w0:World) (k:Nat) (v:Value) (w:World):Prop where
 own:∃cs,w.ownsRow w0.heap.size 101 22 v k cs/\A4A (B6a w0.heap.size w) (F.take k) cs
 B:Below w0.heap.size w0 w
def z31:Array Value:=#[.int .u8 0,.string {data:=#[]},.string {data:=#[]},.int .i64 0,.int .i64 0,.int .i64 0,.int .i64 0,.string {data:=#[]},.string {data:=#[]},.int .i64 0,.int .i64 0,.bool false,.bool false,.int .i64 0,.int .i64 0,.int .i64 0,.int .i64 0,.int .i64 0,.int .i64 0,.slice none 0 0,.int .i64 0]
structure C0c (f:FI) (g8 g9:Nat) (wr:World) (v:Int) (W:IH) (w:World):Prop where
 f8:w.heap[g8]?=some (.cells f.cells.toArray 91 (0,0))
 s9:SB g9 W w
 B:Below wr.heap.size wr w
 one:W.recs.oneCell'=true
 ok:v=1->B9A f W
 rc:v=1->N5 w W.recs f.L/\A7M W.recs/\B8z w wr.heap.size 108 W.recs
 tri:v=0\/v=1\/v=2
theorem B4x {h W:IH} {L:List (List UInt8×List UInt8)} (k:B1h h L W):W.recs=h.recs:=by
 obtain⟨-,⟨-,h2,-⟩|⟨-,-,f,-,-,h2,-⟩⟩:=k<;>(rw[h2];rfl)
theorem B8w: (Tryz.prog.info? 101).map (λi=>(i.zero,i.size,i.bytes))=some (some (.agg #[.int .u8 0,str [],str [],.int .i64 0,.int .i64 0,.int .i64 0,.int .i64 0,str [],str [],.int .i64 0,.int .i64 0,.bool false,.bool false,.int .i64 0,.int .i64 0,.int .i64 0,.int .i64 0,.int .i64 0,.int .i64 0,.slice none 0 0,.int .i64 0,.slice none 0 0]),22,232):=by kernel_rfl
def C0C (F:List FI) (w:World) (e:Ending) (w':World):Prop:=
 ∃v x,e= .returned (.tuple #[v,.int .i64 x])/\Below w.heap.size w w'/\(x=1->A6L F<=1048576/\∃cs,w'.ownsRow w.heap.size 101 22 v F.length cs/\A4A (B6a w.heap.size w') F cs)
theorem B9h (W:IH) (p:Option Addr) (n c:Nat):Tryz.prog.built 101 [(0,.agg W.scells.toArray),(1,.slice p n c)]=some (W.scells++[Value.slice p n c]).toArray:=by kernel_rfl
theorem C0I (W:IH) (dv:Value):Instr.fill (λi=>some (i*22,22)) ((Array.range (1*22)).map (#[.int .u8 0,str [],str [],.int .i64 0,.int .i64 0,.int .i64 0,.int .i64 0,str [],str [],.int .i64 0,.int .i64 0,.bool false,.bool false,.int .i64 0,.int .i64 0,.int .i64 0,.int .i64 0,.int .i64 0,.int .i64 0,.slice none 0 0,.int .i64 0,.slice none 0 0][·% 22]!)) [(0,.agg (W.scells++[dv]).toArray)]=some (W.scells++[dv]).toArray:=by kernel_rfl
theorem C1c (W:IH) (dv:Value) (w:World): (Instr.buildSlice 42 1 #[(0,.agg (W.scells++[dv]).toArray)]).run Tryz.prog w= .ok (.slice (some ⟨w.heap.size,0,none⟩) 1 1) (w.alloc (.cells (W.scells++[dv]).toArray 101)):=by
 obtain⟨i,hi,hz,hs,hb⟩:=info_parts B8w;refine run_buildSlice w 42 101 1 _ _ i _ Tryz.underlying42 hi hz (by rw[hs];decide) (by rw[hs];decide) ?_;rw[hs];exact C0I W dv
theorem WSt.grow {F:List FI} {w0 wr w:World} {k:Nat} {v:Value} {f:FI} {W:IH} (h:WSt F w0 k v wr) (hb:Below wr.heap.size wr w) (hf:F[k]?=some f) (hk:k<=1048576) (hd:f.dv.oneCell'=true) (h1:W.recs.oneCell'=true) (h2:B9A f W) (h3:N5 w W.recs f.L) (h4:A7M W.recs) (h5:B8z w wr.heap.size 108 W.recs):
  ∃v2 w2,(Builtin.append_ #[42,42] 42 #[v,.slice (some ⟨w.heap.size,0,none⟩) 1 1]).run Tryz.prog (w.alloc (.cells (W.scells++[f.dv]).toArray 101))= .ok v2 w2/\WSt F w0 (k+1) v2 w2:=by
 obtain⟨cs,ho,hr⟩:=h.own;have hB:=h.B.trans (hb.mono h.B.size);obtain⟨wA,AG⟩:∃wA,wA=w.alloc (.cells (W.scells++[f.dv]).toArray 101):=⟨_,rfl⟩;have AA:Below w.heap.size w wA:=by rw[AG];exact(zD _ _).alloc (zB _) _
 have AJ:At wA w.heap.size 0 (W.scells++[f.dv]):=by rw[AG];exact B9K w _ 101
 rw[<-AG];have AB:=hB.trans (AA.mono hB.size);have AH:Below wr.heap.size wr wA:=hb.trans (AA.mono hb.size);have AD:=A5F ho AH;obtain⟨i,hi,hz,hs,AL⟩:=info_parts B8w
 obtain⟨v2,w2,AP,AO,hg,-⟩:=run_append_own (P:=Tryz.prog) (w:=wA) w0.heap.size 42 42 101 i _ 22 232 Tryz.underlying42 hi hz hs AL rfl (by decide) v k cs AD ⟨w.heap.size,0,none⟩ 1 1 (W.scells++[f.dv]) rfl AJ.src (by
  intro u hu;rcases List.mem_append.1 hu with hu|hu
  ·exact B6C W h1 u hu
  ·obtain rfl:=List.mem_singleton.1 hu;exact hd) (by unfold maxLen;omega) (by omega) AB.size
 have AM:C0T 101 w0.heap.size wA w2:=by
  intro q o hq _ ho;refine(hg.block q (A8 hq) (λe=> ?_)).trans hq;rcases AD.2 with ⟨h0,-⟩|⟨g',cap,cur,h1,h2,h3,h4⟩
  ·rw[h0] at e;cases e
  ·rw[h1] at e;cases e
   rw[hq] at h3;injection h3 with h3;exact ho _ _ h3
 refine⟨v2,w2,AP,⟨cs++(W.scells++[f.dv]),AO,?_⟩,?_⟩
 ·have AE:A4A (B6a w0.heap.size wA) (F.take k) cs:=hr.mono λ_ _ hx=>hx.keep λq o hq _ _=>(AH.block q (A8 hq)).trans hq
  have AC:B6a w0.heap.size wA f (W.scells++[f.dv]):=⟨W,rfl,h2,h3.below AA,h4,λp n c e=>by
   obtain⟨q1,cur,fz,q2⟩:=h5 p n c e;exact⟨zP h.B.size q1,cur,fz,(AA.block _ (A8 q2)).trans q2⟩⟩
  have AI:=(zM.1 hf).1;rw[zU AI,show F[k]=f from Option.some.inj ((zF AI).symm.trans hf)];exact(AE.snoc AC).mono λ_ _ hx=>hx.keep AM
 ·refine AB.trans ⟨hg.os,hg.tape,hg.output,hg.size,λq hq=>hg.block q (zL hq AB.size) (λe=> ?_)⟩
  rcases AD.2 with ⟨h0,-⟩|⟨g',cap,cur,h1,h2,h3,h4⟩
  ·rw[h0] at e;cases e
  ·rw[h1] at e
   have:g'=q:=by simpa[Value.ownBlock] using e.symm
   omega
theorem B9G (v:Value) (F:List FI) (w:World) (h:A9A w v F) (BX:szs F<=13631488) (Bm:F.length<=1048576):Calls Tryz.prog 18 #[v] w (C0C F w):=by
 obtain⟨p,c,rfl,Bn,Bo,BM⟩:=h;have Bc:=A0 BM;have BI:=A0 BX;have AB:Hid (WSt F w 0 (.slice none 0 0) w):=A0 ⟨⟨[],World.ownsRow_nil _ _ _ _,A4A.nil _⟩,zD _ _⟩;clear BM BX;go_enter Tryz.func18,Tryz.ntmps18
 go_wp2_with fail
 go_loopw [4,5,6,13] (λs4 s5 s6 s13 wr=>∃ (k:Nat) (x d:Int),s13= .int .i64 k/\s5= .int .i64 d/\s6= .int .i64 x/\d=A6L (F.take k)/\(x=0\/x=1)/\(x=1->A6L (F.take k)<=1048576)/\k<=F.length/\Hid (WSt F w k s4 wr)) (λ_ _ _ s13 _=>F.length- (intOf s13).toNat)
 case atStart=>exact⟨0,1,0,rfl,rfl,rfl,rfl,.inr rfl,λ_=>zW _,zW _,AB⟩
 case round=>
  obtain⟨k,x,d,rfl,rfl,rfl,hd,hx,BZ,hk,HS⟩:=hrel;have HD:=A0 hd;have HX:=A0 hx;have Bh:=A0 BZ;clear hd hx BZ AB;by_cases Aj:k<F.length
  ·obtain⟨rg,ro,rfl,Bk,k1,k2⟩:=Bc.out k Aj
   have BR:F[k]?=some F[k]:=zF Aj;have BW:=B9P (List.getElem_mem Aj:F[k]∈F);have BO:A6L (F.take (k+1))=A6L (F.take k)+F[k].ds.length:=by rw[zU Aj,B6c];rfl
   generalize F[k]=f at*;have Be:=A0 BR;have Bd:=A0 BO;have Av:f.sz<=13631488:=zP BW BI.out;have Bp:A6L (F.take k)<=13631488:=zP (B6o F k) (zP (C0G F) BI.out);unfold FI.sz at Av;have Br:=A6O f.L;have hq:=k2.below HS.out.B;have BC:=A0 (B2g (k1.carry (HS.out.B.block rg Bk)));obtain⟨w2,AH,As,Aq,BU⟩:=B9H hq;have Ab:=A0 (hq.below Aq);have AB:=A0 AH;have Am:=A0 As;have AP:=A0 Aq;have An:=A0 (B3f (h:=f.h) (l:=[f.dv,.int .i64 f.e]) (A7H As));have BE:=A0 (A6T f.h f.L w2 Ab.out.recs (by omega));obtain⟨g8,Ai⟩:∃g8,g8=wr.heap.size:=⟨_,rfl⟩;rw[<-Ai] at AB Am An BU;have H8:=A0 Ai;clear k1 k2 hq AH As Aq BR BO BW;go_upto_region 6 with (first|(refine D3 rfl 91 _ rfl ⟨rg,ro+k*23,none⟩ rfl _ BC.out ?_)|(rw[<-Ai];refine E6 rfl 91 _ _ rfl ⟨g8,0,none⟩ rfl (.agg f.cells.toArray) rfl w2 AB.out ?_)|fail)
   clear BC AB Ai;go_wp2_with (first|(refine D3 rfl 26 _ rfl ⟨g8,0,none⟩ rfl _ An.out ?_)|fail)
   refine BE.out.mono ?_;rintro e w3 ⟨rv,rfl,BT,⟨AM,AV,AZ⟩,Ae⟩;obtain⟨q,hq⟩:∃q:IH,q= {f.h with recs:=rv}:=⟨_,rfl⟩;rw[<-hq];have Au:q.recs=rv:=by rw[hq]
   obtain⟨w4,AH,Ah,-,AT,-⟩:=A1X q (by rw[Au];exact AM) rfl (zI w3 (.cells z31 31));have Af:Below w3.heap.size w3 w4:=AT _ _ ((zD _ _).alloc (zB _) _) (zB _);have AE:Below w2.heap.size w2 w4:=Ae.trans (Af.mono Ae.size);have Bs:wr.heap.size<=w3.heap.size:=zP AP.out.size Ae.size;have AS:Below wr.heap.size wr w4:=AP.out.trans (AE.mono AP.out.size);obtain⟨g9,AX⟩:∃g9,g9=w3.heap.size:=⟨_,rfl⟩;rw[<-AX] at AH Ah;have H9:=A0 AX;have AB:=A0 AH;have AD:Hid (SB g9 q w4):=A0 Ah;have Ac:=A0 (BT.below Af);have Ak:=A0 AV;have BD:=A0 AM
   have Ad:Hid (B8z w4 wr.heap.size 108 rv):=A0 λp n c e=>by
    obtain⟨h1,cur,fz,h2⟩:=AZ p n c e;exact⟨zP AP.out.size h1,cur,fz,(Af.block _ (A8 h2)).trans h2⟩
   have AQ:=A0 AS;have AJ:=A0 ((AE.block g8 BU).trans Am.out);have BF:=A0 (Ab.out.below AE);have HQ:=A0 hq;have AL:=A0 Au;have y0:=Ah.cell 0 (.int .u8 f.h.typ) (by rw[hq];rfl);obtain⟨dp,dc,BQ⟩:=Ab.out.data.slice;have AR:=A0 BQ;clear BT AM AV AZ Ae hq Au AH Ah AT Af AE AS BQ BE An Ab Am AP;go_upto_region 7 with (first|(rw[<-AX];refine E6 rfl 31 _ _ rfl ⟨g9,0,none⟩ rfl _ rfl w4 AB.out ?_)|fail)
   rw[<-AX];clear AX AB;go_upto_if 22 with fail
   go_cut [10] (λs10 wx=>∃ (v:Int) (W:IH),s10= .int .i64 v/\Hid (C0c f g8 g9 wr v W wx))
   case first=>
    by_cases ht:f.h.typ=103
    ·have t1: (f.h.typ==103)=true:=by simpa using ht
     have HL:=A0 (B3f (h:=f.h) (l:=[f.dv,.int .i64 f.e]) (A7H AJ.out));have BA:=A0 (B9E f.h f.L w4 BF.out.recs (by omega) (by omega));go_wp2_with (first|(refine D3 rfl 26 _ rfl ⟨g8,0,none⟩ rfl _ HL.out ?_)|fail)
     refine BA.out.mono ?_;rintro e w5 ⟨v,rfl,AC,hv,hp⟩;have G5:=(AC.block g8 (A8 AJ.out)).trans AJ.out;have c21:w5.cell? ⟨g8,21,none⟩=some (.slice dp f.ds.length dc):=by rw[<-AR.out];exact A7H G5 21 _ rfl
     have AA:Hid (∀v',(v'=1->v=1/\f.ds=[])->(v'=0\/v'=1\/v'=2)->C0c f g8 g9 wr v' q w5):=A0 λv' h h3=>
      ⟨G5,AD.out.below AC (A8 AD.out),AQ.out.trans (AC.mono AQ.out.size),by rw[AL.out];exact BD.out,λe=> .inr ⟨ht,by rw[AL.out];exact HQ.out,hp (h e).1,(h e).2⟩,λe=>by
       rw[AL.out];refine⟨Ac.out.below AC,Ak.out,λp n c e=> ?_⟩;obtain⟨h1,cur,fz,h2⟩:=Ad.out p n c e;exact⟨h1,cur,fz,(AC.block _ (A8 h2)).trans h2⟩,h3⟩
     have HV:=A0 hv;clear hp AC G5 BA HL y0 hv ht;by_cases h0:f.ds=[]
     ·have z1:¬(0:Int)<f.ds.length:=by rw[h0];decide
      have HF:=A0 (AA.out v (λe=>⟨e,h0⟩) HV.out);clear h0;go_wp2_with fail
      go_meet
      exact⟨v,q,rfl,HF⟩
     ·have z1: (0:Int)<f.ds.length:=by have:=List.length_pos_iff.2 h0;omega
      have HF:=A0 (AA.out 0 (λe=>absurd e (by decide)) (.inl rfl));clear h0;go_wp2_with fail
      go_meet
      exact⟨0,q,rfl,HF⟩
    ·have t1: (f.h.typ==103)=false:=by simpa using ht
     have AG:q.name=f.h.name/\q.link=f.h.link/\q.user=f.h.user/\q.group=f.h.group:=by rw[HQ.out];exact⟨rfl,rfl,rfl,rfl⟩
     have Az:=A0 (A9Z q f.L w4 (by rw[AL.out];exact Ac.out) (by rw[AG.1,AG.2.1,AG.2.2.1,AG.2.2.2];omega) (λr hr=>by have:=A2K hr;omega) (by omega) (by rw[AG.1];omega) (by rw[AG.2.1];omega) (by rw[AG.2.2.1];omega) (by rw[AG.2.2.2];omega));have HL:=A0 AD.out.load;clear AG;go_wp2_with (first|(refine D3 rfl 31 _ rfl ⟨g9,0,none⟩ rfl _ HL.out ?_)|fail)
     refine Az.out.mono ?_;rintro e w5 ⟨W,v,rfl,AC,hv,Ao,Ar⟩;have BV:=AD.out.below AC (A8 AD.out);obtain⟨w6,AH,AW,ho6,AU,-⟩:=A1X W Ao rfl BV;have Bq:=A8 AD.out;have G5:=(AC.block g8 (A8 AJ.out)).trans AJ.out
     have AY:g8≠g9:=by
      intro e;have h1:=AJ.out;have h2:w4.heap[g9]?=some (.cells q.scells.toArray 31 (0,0)):=AD.out;rw[e,h2] at h1;injection h1 with h1;injection h1 with _ h1 _;exact absurd h1 (by decide)
     have G6:=(ho6 g8 AY).trans G5;have AB:=A0 AH;have Bl:=A0 AW;have BJ:Below wr.heap.size wr w6:=AU _ _ (AQ.out.trans (AC.mono AQ.out.size)) (by have:=H9.out;omega)
     have AA:Hid (∀v',(v'=1->v=1/\(A4u W.typ=true->(f.ds.length:Int)=W.size)/\(A4u W.typ=false->f.ds=[]))->(v'=0\/v'=1\/v'=2)->C0c f g8 g9 wr v' W w6):=A0 λv' h h3=>
      ⟨G6,AW,BJ,Ao,λe=>by
       have k:=Ar (h e).1;have hr:=(B4x k).trans AL.out;exact .inl ⟨ht,by rw[hr,<-HQ.out];exact k,(h e).2⟩,λe=>by
       have hr:=(B4x (Ar (h e).1)).trans AL.out;rw[hr];have BL:∀k,k≠g9->k<w4.heap.size->w6.heap[k]?=w4.heap[k]?:=λk hk hl=>(ho6 k hk).trans (AC.block k hl)
       have BS:∀p n c,rv= .slice (some p) n c->p.block≠g9/\p.block<w4.heap.size:=λp n c e=>by
        obtain⟨-,cur,fz,h2⟩:=Ad.out p n c e;refine⟨λe2=> ?_,A8 h2⟩;rw[e2,AD.out] at h2;injection h2 with h2;injection h2 with _ h2 _;exact absurd h2 (by decide)
       refine⟨?_,Ak.out,λp n c e=> ?_⟩
       ·obtain⟨p,c,hv,hc⟩:=Ac.out
        refine⟨p,c,hv,λj hj=> ?_⟩;obtain⟨rg,ro,rfl,k1,k2,k3⟩:=hc j hj;obtain⟨n1,n2⟩:=BS _ _ _ hv;have Ag:=BL rg n1 n2;refine⟨rg,ro,rfl,?_,(zZ (a:=⟨rg,ro+j*2,none⟩) Ag).trans k2,(zZ (a:=⟨rg,ro+j*2+1,none⟩) Ag).trans k3⟩;rw[Array.getElem?_eq_getElem n2] at Ag;exact A8 Ag
       ·obtain⟨h1,cur,fz,h2⟩:=Ad.out p n c e
        obtain⟨n1,n2⟩:=BS _ _ _ e;exact⟨h1,cur,fz,(BL _ n1 n2).trans h2⟩,h3⟩
     have c21:w6.cell? ⟨g8,21,none⟩=some (.slice dp f.ds.length dc):=by rw[<-AR.out];exact A7H G6 21 _ rfl
     have d0:=AW.cell 0 (.int .u8 W.typ) rfl;have d3:=AW.cell 3 (.int .i64 W.size) rfl;have HV:=A0 hv;clear Ar AC BV AH AW ho6 AU G5 G6 BJ AY Az HL y0 hv Ao ht;go_upto_region 12 with (first|(refine E6 rfl 31 _ _ rfl ⟨g9,0,none⟩ rfl _ rfl w6 AB.out ?_)|fail)
     clear AB;by_cases AI:v=1
     ·subst AI
      have AO:=λwx=>A2C W.typ wx;cases hd:A4u W.typ with
      |true=>
       rw[hd] at AO;by_cases he: (f.ds.length:Int)=W.size
       ·have b1: ((f.ds.length:Int)==W.size)=true:=by simpa using he
        have b2: ((f.ds.length:Int) !=W.size)=false:=by simp[bne,b1]
        have HF:=A0 (AA.out 1 (λ_=>⟨rfl,λ_=>he,λe=>by rw[hd] at e;cases e⟩) HV.out);clear he hd AA;go_wp2_with (go_at_call 44;refine(AO _).mono ?_;rintro e wx ⟨rfl,rfl⟩)
        go_meet
        exact⟨1,W,rfl,HF⟩
       ·have b1: ((f.ds.length:Int)==W.size)=false:=by simpa using he
        have b2: ((f.ds.length:Int) !=W.size)=true:=by simp[bne,b1]
        have HF:=A0 (AA.out 0 (λe=>absurd e (by decide)) (.inl rfl));clear he hd AA;go_wp2_with (go_at_call 44;refine(AO _).mono ?_;rintro e wx ⟨rfl,rfl⟩)
        go_meet
        exact⟨0,W,rfl,HF⟩
      |false=>
       rw[hd] at AO;by_cases h0:f.ds=[]
       ·have z1:¬(0:Int)<f.ds.length:=by rw[h0];decide
        have HF:=A0 (AA.out 1 (λ_=>⟨rfl,λe=>(by rw[hd] at e;cases e),λ_=>h0⟩) HV.out);clear h0 hd AA;go_wp2_with (go_at_call 44;refine(AO _).mono ?_;rintro e wx ⟨rfl,rfl⟩)
        go_meet
        exact⟨1,W,rfl,HF⟩
       ·have z1: (0:Int)<f.ds.length:=by have:=List.length_pos_iff.2 h0;omega
        have HF:=A0 (AA.out 0 (λe=>absurd e (by decide)) (.inl rfl));clear h0 hd AA;go_wp2_with (go_at_call 44;refine(AO _).mono ?_;rintro e wx ⟨rfl,rfl⟩)
        go_meet
        exact⟨0,W,rfl,HF⟩
     ·have b1: (v==1)=false:=by simpa using AI
      have HF:=A0 (AA.out v (λe=>absurd e AI) HV.out);clear AI AA;go_wp2_with fail
      go_meet
      exact⟨v,W,rfl,HF⟩
   case rest=>
    obtain⟨v,W,rfl,HC⟩:=hcut;clear AD Ac Ak BD Ad AQ AJ BF HQ AL y0;obtain⟨wx,BY⟩:∃wx,wx=wc:=⟨_,rfl⟩;rw[<-BY] at HC⊢;clear BY wc;have c21:wx.cell? ⟨g8,21,none⟩=some (.slice dp f.ds.length dc):=by rw[<-AR.out];exact A7H HC.out.f8 21 _ rfl
    by_cases AI:v=1
    ·subst AI
     have HL:=A0 HC.out.s9.load;have hw:IntKind.i64.wrap (d+f.ds.length)=d+f.ds.length:=by have:=HD.out;rw[zQ _ (by omega)]
     obtain⟨r1,r2,r3⟩:=HC.out.rc rfl;have BP:f.dv.oneCell'=true:=by rw[AR.out];rfl
     obtain⟨v2,Ba,Ap,Aa⟩:=HS.out.grow HC.out.B Be.out (by omega) BP HC.out.one (HC.out.ok rfl) r1 r2 r3;rw[AR.out] at Ap;have Aw:=A0 Ap;have BH:=A0 Aa;have Ay:=A0 (B9h W dp f.ds.length dc);have Ax:=A0 (C1c W (.slice dp f.ds.length dc) wx);have Al:Hid (d+f.ds.length=A6L (F.take (k+1))):=A0 (by have:=HD.out;have:=Bd.out;omega);clear r1 r2 r3 BP Ap Aa;by_cases Bj: (1048576:Int)<d+f.ds.length
     ·go_wp2_with (first|(refine D3 rfl 31 _ rfl ⟨g9,0,none⟩ rfl _ HL.out ?_)|(refine A1k rfl 101 #[(0,.tmp 73),(1,.tmp 75)] rfl [(0,.agg W.scells.toArray),(1,.slice dp f.ds.length dc)] rfl _ Ay.out ?_)|(refine A5j rfl 42 _ rfl (.agg (W.scells++[Value.slice dp f.ds.length dc]).toArray) rfl _ _ Ax.out ?_)|(at_builtin;refine X2 rfl (.tmp 72) (.tmp 77) 42 rfl _ _ rfl rfl v2 Ba Aw.out ?_)|fail)
      go_roundw
      case rel=>exact⟨k+1,0,d+f.ds.length,by go_num,rfl,rfl,Al.out,.inl rfl,λe=>absurd e (by decide),by omega,BH⟩
      case measure=>simp[intOf];omega
     ·have Bi:Hid (x=1->A6L (F.take (k+1))<=1048576):=A0 λ_=>by have:=Al.out;omega
      go_wp2_with (first|(refine D3 rfl 31 _ rfl ⟨g9,0,none⟩ rfl _ HL.out ?_)|(refine A1k rfl 101 #[(0,.tmp 73),(1,.tmp 75)] rfl [(0,.agg W.scells.toArray),(1,.slice dp f.ds.length dc)] rfl _ Ay.out ?_)|(refine A5j rfl 42 _ rfl (.agg (W.scells++[Value.slice dp f.ds.length dc]).toArray) rfl _ _ Ax.out ?_)|(at_builtin;refine X2 rfl (.tmp 72) (.tmp 77) 42 rfl _ _ rfl rfl v2 Ba Aw.out ?_)|fail)
      go_roundw
      case rel=>exact⟨k+1,x,d+f.ds.length,by go_num,rfl,rfl,Al.out,HX.out,Bi.out,by omega,BH⟩
      case measure=>simp[intOf];omega
    ·have b1: (v==1)=false:=by simpa using AI
     have b2: (v !=1)=true:=by simp[bne,b1]
     have Bg:=A0 AI;have Bb:=A0 (HS.out.B.trans (HC.out.B.mono HS.out.B.size));clear AI HC;go_wp2_with fail
     go_ret2
     exact⟨_,v,rfl,Bb.out,λe=>absurd e Bg.out⟩
  ·obtain rfl:k=F.length:=by omega
   go_wp2_with fail
   go_ret2
   refine⟨_,x,rfl,HS.out.B,λe=> ?_⟩;obtain⟨cs,h1,h2⟩:=HS.out.own;have h3:=Bh.out e;rw[List.take_length] at h2 h3;exact⟨h3,cs,h1,h2⟩
end Go.Proofs.YtkanmkcojlefbaaGreatDoor
