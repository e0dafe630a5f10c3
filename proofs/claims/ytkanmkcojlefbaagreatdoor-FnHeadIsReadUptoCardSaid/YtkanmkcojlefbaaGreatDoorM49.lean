/-
  Part of the proof; holds the texts L3a, L3w.
-/
import Derived.Test.YtkanmkcojlefbaaGreatDoorM48
import Derived.OpenShut
set_option maxHeartbeats 16000000
set_option maxRecDepth 100000
set_option linter.unusedSimpArgs false
set_option linter.unusedVariables false
namespace Go.Proofs.YtkanmkcojlefbaaGreatDoor
open Go.ChangeShapes Go.WideShapes Go.ChangeAt Go.RowKit
set_option maxRecDepth 100000
section
variable {H:Type} {enc:TypeId×Value->H} {w:World} {base:Nat} {sp:Nat->Bool} {held:Bool}
theorem B0V {d:DataW H} {l:List (DataW H)} (h:d∈l):Rows.uptoBulk d<=Rows.uptoBulkAll l:=by
 induction l with
 |nil=>cases h
 |cons x r ih=>
  simp only[Rows.uptoBulkAll];cases List.mem_cons.1 h with
  |inl e=>subst e;omega
  |inr e=>have:=ih e;omega
theorem B0W:∀ (L:List (List UInt8×List UInt8)) (AA:List (DataW H×List MemPlace)),AA.length=L.length->(∀ (j:Nat) (hj:j<L.length) (y:DataW H×List MemPlace),AA[j]?=some y->L[j].1.length+L[j].2.length+3<=Rows.uptoBulk y.1)->L1 L<=8*Rows.uptoBulkAll (AA.map (·.1)):=by
 intro L;induction L with
 |nil=>intro _ _ _;exact Nat.zero_le _
 |cons p L ih=>
  intro AA hl h;cases AA with
  |nil=>cases hl
  |cons e AA=>
   have h0:=h 0 (by simp) e rfl;have h1:=ih AA (by simpa using hl) (λj hj y hy=>h (j+1) (by simp;omega) y hy);simp only[List.map_cons,Rows.uptoBulkAll,L1,List.getElem_cons_zero] at h0 h1⊢;omega
theorem B3R (s:ByteArray):Value.string s=str s.data.toList:=by cases s;rfl
theorem A1G {AA:Nat} {cs:List Value} {x:DataW H×List MemPlace} (h:DataW.trod enc Tryz.prog w base sp held AA 9 cs=some x):∃l:List UInt8,cs=[str l]/\x=(.lit (.string l),[])/\l.length<=9223372036854775807:=by
 obtain⟨s,hc,hx,hl⟩:=DataW.trod_string Tryz.underlying9 h;refine⟨s.data.toList,by rw[hc,B3R],hx,?_⟩;have:s.data.toList.length=s.size:=Array.length_toList;rw[this];exact hl
theorem B0a {a:Addr} {c1:List Value} (h:w.cells? base a 2=some c1):∃c d,c1=[c,d]/\w.cell? a=some c/\w.cell? (a.add 1)=some d:=by
 unfold World.cells? at h;split at h
 ·have e0:a.add 0=a:=by simp[Addr.add]
  simp only[List.range_succ,List.range_zero,List.nil_append,List.cons_append,List.mapM_cons,List.mapM_nil,e0] at h;cases AA:w.cell? a with
  |none=>simp[AA] at h
  |some c=>
   cases AB:w.cell? (a.add 1) with
   |none=>simp[AA,AB] at h
   |some d=>simp[AA,AB] at h;exact⟨c,d,h.symm,rfl,rfl⟩
 ·cases h
theorem B1T {a:Addr} {v:Value} (h:w.cell? a=some v):a=⟨a.block,a.off,none⟩:=by
 obtain⟨b,o,sp⟩:=a;cases sp with
 |none=>rfl
 |some s=>unfold World.cell? at h;split at h<;>simp_all
theorem A0v:Tryz.prog.cellsOf 9=1:=by kernel_rfl
theorem B0Z:Tryz.prog.cellsOf 59=2:=by kernel_rfl
theorem A0u:Tryz.prog.cellsOf 2=1:=by kernel_rfl
theorem A4p:Tryz.prog.cellsOf 3=1:=by kernel_rfl
theorem A7c:Tryz.prog.cellsOf 4=1:=by kernel_rfl
theorem B2B:Tryz.prog.cellsOf 5=1:=by kernel_rfl
theorem A3Y:Tryz.prog.cellsOf 23=2:=by kernel_rfl
theorem B0X:Tryz.prog.cellsOf 24=1:=by kernel_rfl
theorem B0Y:Tryz.prog.cellsOf 26=21:=by kernel_rfl
theorem fld {P:Program} {n t o m:Nat} {cs:List Value} {y:Option (DataW H×List MemPlace)} {r:List Value} (h:DataW.trod enc P w base sp held n t ((cs.drop o).take (P.cellsOf t))=y) (hm:P.cellsOf t=m) (hr: (cs.drop o).take m=r):DataW.trod enc P w base sp held n t r=y:=by
 rw[hm,hr] at h;exact h
theorem A3r {AA:Nat} {a b:Value} {x:DataW H×List MemPlace} (h:DataW.trod enc Tryz.prog w base sp held AA 23 [a,b]=some x):∃s n:Int,a= .int .i64 s/\b= .int .i64 n/\(-9223372036854775808<=s/\s<=9223372036854775807)/\(-9223372036854775808<=n/\n<=9223372036854775807):=by
 obtain⟨xs,n,rfl,-,-,hl,hf⟩:=DataW.trod_struct Tryz.underlying23 h;have h0:=hf 0 _ rfl;have h1:=hf 1 _ rfl;have hl:xs.length=2:=hl
 obtain⟨x0,x1,rfl⟩:∃x0 x1,xs=[x0,x1]:=by
  match xs,hl with
  | [x0,x1],_=>exact⟨_,_,rfl⟩
 obtain⟨s,e0,-,w0⟩:=DataW.trod_int Tryz.underlying2 (fld h0 A0u rfl);obtain⟨m,e1,-,w1⟩:=DataW.trod_int Tryz.underlying2 (fld h1 A0u rfl);have e0: [a]=[Value.int .i64 s]:=e0;have e1: [b]=[Value.int .i64 m]:=e1;exact⟨s,m,(List.cons.inj e0).1,(List.cons.inj e1).1,bounds_i64 w0,bounds_i64 w1⟩
theorem B1c {AA:Nat} {a b:Value} {x:DataW H×List MemPlace} (h:DataW.trod enc Tryz.prog w base sp held AA 59 [a,b]=some x):∃k v:List UInt8,a=str k/\b=str v/\k.length+v.length+3<=Rows.uptoBulk x.1:=by
 obtain⟨xs,n,rfl,rfl,-,hl,hf⟩:=DataW.trod_struct Tryz.underlying59 h;have h0:=hf 0 _ rfl;have h1:=hf 1 _ rfl;have hl:xs.length=2:=hl
 obtain⟨x0,x1,rfl⟩:∃x0 x1,xs=[x0,x1]:=by
  match xs,hl with
  | [x0,x1],_=>exact⟨_,_,rfl⟩
 obtain⟨k,e0,rfl,-⟩:=A1G (fld h0 A0v rfl);obtain⟨v,e1,rfl,-⟩:=A1G (fld h1 A0v rfl);have e0: [a]=[str k]:=e0;have e1: [b]=[str v]:=e1;refine⟨k,v,(List.cons.inj e0).1,(List.cons.inj e1).1,?_⟩;simp only[List.map_cons,List.map_nil,Rows.uptoBulk,Rows.uptoBulkAll];omega
theorem B8e {α:Type} {p:Nat->α->Prop} (n:Nat) (h:∀j,j<n->∃x,p j x):∃l:List α,l.length=n/\∀ (j:Nat) (hj:j<l.length),p j l[j]:=by
 induction n with
 |zero=>exact⟨[],rfl,λj hj=>absurd hj (Nat.not_lt_zero _)⟩
 |succ n ih=>
  obtain⟨l,hl,hp⟩:=ih (λj hj=>h j (by omega));obtain⟨x,hx⟩:=h n (by omega);refine⟨l++[x],by simp[hl],λj hj=> ?_⟩;rw[List.length_append,List.length_singleton,hl] at hj;by_cases AA:j<l.length
  ·rw[List.getElem_append_left AA];exact hp j AA
  ·have:j=n:=by omega
   subst this;rw[List.getElem_append_right (by omega)];simpa using hx
theorem B0z {AB:Nat} {v:Value} {x:DataW H×List MemPlace} (h:DataW.trod enc Tryz.prog w base sp held AB 24 [v]=some x):∃L,N5 w v L/\L1 L<=8*Rows.uptoBulk x.1:=by
 rcases DataW.trod_slice Tryz.underlying24 h with ⟨hc,-⟩|⟨a,len,cap,AA,rest,n,-,hc,rfl,-,hl,AH,AL,AI,-⟩
 ·have hc:v= .slice none 0 0:=(List.cons.inj hc).1
  exact⟨[],⟨none,0,hc,λj hj=>absurd hj (Nat.not_lt_zero _)⟩,Nat.zero_le _⟩
 ·have hc:v= .slice (some a) len cap:=(List.cons.inj hc).1
  have AJ:∀j,j<len->AA[j]?≠none:=λj hj e=>by rw[List.getElem?_eq_none_iff] at e;omega
  have AD:∀j,j<len->∃p:List UInt8×List UInt8,w.cell? (a.add (j*2))=some (str p.1)/\w.cell? ((a.add (j*2)).add 1)=some (str p.2)/\∀y,AA[j]?=some y->p.1.length+p.2.length+3<=Rows.uptoBulk y.1:=λj hj=>by
   have h1:=AI j hj;rw[B0Z] at h1;cases AC:w.cells? base (a.add (j*2)) 2 with
   |none=>rw[AC] at h1;exact absurd h1.symm (by rw[Option.bind_none];exact λe=>(AJ j hj) e)
   |some cs=>
    obtain⟨c,d,rfl,q1,q2⟩:=B0a AC;rw[AC,Option.bind_some] at h1;obtain⟨y,hy⟩:∃y,AA[j]?=some y:=⟨_,List.getElem?_eq_getElem (by omega)⟩;rw[hy] at h1;obtain⟨k,v,rfl,rfl,AE⟩:=B1c h1;exact⟨(k,v),q1,q2,λy' AG=>by rw[hy] at AG;cases AG;exact AE⟩
  obtain⟨L,hL,hp⟩:=B8e (p:=λj (p:List UInt8×List UInt8)=>w.cell? (a.add (j*2))=some (str p.1)/\w.cell? ((a.add (j*2)).add 1)=some (str p.2)/\∀y,AA[j]?=some y->p.1.length+p.2.length+3<=Rows.uptoBulk y.1) len AD;have AE:=B0W L AA (by omega) (λj hj y hy=>(hp j hj).2.2 y hy);refine⟨L,⟨some a,cap,by rw[hc,hL],λj hj=> ?_⟩,by simp only[Rows.uptoBulk];omega⟩;obtain⟨h1,h2,-⟩:=hp j hj
  have ha:a=⟨a.block,a.off,none⟩:=by
   have h0:=(hp 0 (by omega)).1;have e:a.add (0*2)=a:=by simp[Addr.add]
   rw[e] at h0;exact B1T h0
  have e1:a.add (j*2)=⟨a.block,a.off+j*2,none⟩:=by rw[ha];exact Lib.addr_add _ _ _
  have e2: (a.add (j*2)).add 1=⟨a.block,a.off+j*2+1,none⟩:=by rw[e1];exact Lib.addr_add _ _ _
  rw[e2] at h2;rw[e1] at h1;exact⟨a.block,a.off,congrArg some ha,block_lt_of_cell (a:=⟨a.block,a.off+j*2,none⟩) h1,h1,h2⟩
theorem B2v {AC:Nat} {cs:List Value} {x:DataW H×List MemPlace} (h:DataW.trod enc Tryz.prog w base sp held AC 26 cs=some x):∃ (hd:IH) (L:List (List UInt8×List UInt8)),cs=hd.cells/\hd.Rng/\N5 w hd.recs L/\hd.name.length+hd.link.length+hd.user.length+hd.group.length+L1 L<=12*Rows.uptoBulk x.1:=by
 obtain⟨xs,n,rfl,rfl,AB,hl,hf⟩:=DataW.trod_struct Tryz.underlying26 h;rw[B0Y] at AB;have hl:xs.length=18:=hl
 obtain⟨c0,c1,c2,c3,c4,c5,c6,c7,c8,c9,aB,aC,aD,aF,aG,aH,aI,aJ,aK,aA,c20,rfl⟩:∃c0 c1 c2 c3 c4 c5 c6 c7 c8 c9 aB aC aD aF aG aH aI aJ aK aA c20,cs=[c0,c1,c2,c3,c4,c5,c6,c7,c8,c9,aB,aC,aD,aF,aG,aH,aI,aJ,aK,aA,c20]:=by
  match cs,AB with
  | [c0,c1,c2,c3,c4,c5,c6,c7,c8,c9,aB,aC,aD,aF,aG,aH,aI,aJ,aK,aA,c20],_=>exact⟨_,_,_,_,_,_,_,_,_,_,_,_,_,_,_,_,_,_,_,_,_,rfl⟩
 have AA:∀ (i:Nat) (y:DataW H×List MemPlace),xs[i]?=some y->Rows.uptoBulk y.1<=Rows.uptoBulkAll (xs.map (·.1)):=λi y hy=>B0V (List.mem_map.2 ⟨y,List.mem_of_getElem? hy,rfl⟩);have hx:∀i,i<18->∃y,xs[i]?=some y:=λi hi=>⟨_,List.getElem?_eq_getElem (by omega)⟩;obtain⟨y0,hy0⟩:=hx 0 (by omega);have h0:=fld (r:=[c0]) ((hf 0 _ rfl).trans hy0) B2B rfl;obtain⟨v0,e0,-,w0⟩:=DataW.trod_int Tryz.underlying5 h0;obtain rfl:=(List.cons.inj e0).1;obtain⟨y1,hy1⟩:=hx 1 (by omega);have h1:=fld (r:=[c1]) ((hf 1 _ rfl).trans hy1) A0v rfl;obtain⟨v1,e1,r1,-⟩:=A1G h1;have b1:=AA 1 _ hy1;rw[r1] at b1;obtain rfl:=(List.cons.inj e1).1;obtain⟨y2,hy2⟩:=hx 2 (by omega);have h2:=fld (r:=[c2]) ((hf 2 _ rfl).trans hy2) A0v rfl;obtain⟨v2,e2,r2,-⟩:=A1G h2;have b2:=AA 2 _ hy2;rw[r2] at b2;obtain rfl:=(List.cons.inj e2).1;obtain⟨y3,hy3⟩:=hx 3 (by omega);have h3:=fld (r:=[c3]) ((hf 3 _ rfl).trans hy3) A0u rfl;obtain⟨v3,e3,-,w3⟩:=DataW.trod_int Tryz.underlying2 h3;obtain rfl:=(List.cons.inj e3).1;obtain⟨y4,hy4⟩:=hx 4 (by omega);have h4:=fld (r:=[c4]) ((hf 4 _ rfl).trans hy4) A0u rfl;obtain⟨v4,e4,-,w4⟩:=DataW.trod_int Tryz.underlying2 h4;obtain rfl:=(List.cons.inj e4).1;obtain⟨y5,hy5⟩:=hx 5 (by omega);have h5:=fld (r:=[c5]) ((hf 5 _ rfl).trans hy5) A4p rfl;obtain⟨v5,e5,-,w5⟩:=DataW.trod_int Tryz.underlying3 h5;obtain rfl:=(List.cons.inj e5).1;obtain⟨y6,hy6⟩:=hx 6 (by omega);have h6:=fld (r:=[c6]) ((hf 6 _ rfl).trans hy6) A4p rfl;obtain⟨v6,e6,-,w6⟩:=DataW.trod_int Tryz.underlying3 h6;obtain rfl:=(List.cons.inj e6).1
 obtain⟨y7,hy7⟩:=hx 7 (by omega);have h7:=fld (r:=[c7]) ((hf 7 _ rfl).trans hy7) A0v rfl;obtain⟨v7,e7,r7,-⟩:=A1G h7;have b7:=AA 7 _ hy7;rw[r7] at b7;obtain rfl:=(List.cons.inj e7).1;obtain⟨y8,hy8⟩:=hx 8 (by omega);have h8:=fld (r:=[c8]) ((hf 8 _ rfl).trans hy8) A0v rfl;obtain⟨v8,e8,r8,-⟩:=A1G h8;have b8:=AA 8 _ hy8;rw[r8] at b8;obtain rfl:=(List.cons.inj e8).1;obtain⟨y9,hy9⟩:=hx 9 (by omega);have h9:=fld (r:=[c9,aB]) ((hf 9 _ rfl).trans hy9) A3Y rfl;obtain⟨v9,u9,rfl,rfl,w9,-⟩:=A3r h9;obtain⟨Ae,hy10⟩:=hx 10 (by omega);have AO:=fld (r:=[aC]) ((hf 10 _ rfl).trans hy10) A7c rfl;obtain⟨v10,AH,-⟩:=DataW.trod_bool Tryz.underlying4 AO;obtain rfl:=(List.cons.inj AH).1;obtain⟨Af,AD⟩:=hx 11 (by omega);have AP:=fld (r:=[aD,aF]) ((hf 11 _ rfl).trans AD) A3Y rfl;obtain⟨AY,AW,rfl,rfl,-,-⟩:=A3r AP;obtain⟨Ag,hy12⟩:=hx 12 (by omega);have AQ:=fld (r:=[aG]) ((hf 12 _ rfl).trans hy12) A7c rfl;obtain⟨v12,AI,-⟩:=DataW.trod_bool Tryz.underlying4 AQ;obtain rfl:=(List.cons.inj AI).1;obtain⟨Ah,hy13⟩:=hx 13 (by omega);have AR:=fld (r:=[aH,aI]) ((hf 13 _ rfl).trans hy13) A3Y rfl;obtain⟨v13,AX,rfl,rfl,-,-⟩:=A3r AR;obtain⟨Ai,hy14⟩:=hx 14 (by omega);have AS:=fld (r:=[aJ]) ((hf 14 _ rfl).trans hy14) A0u rfl;obtain⟨v14,AJ,-,Aa⟩:=DataW.trod_int Tryz.underlying2 AS;obtain rfl:=(List.cons.inj AJ).1;obtain⟨Aj,AE⟩:=hx 15 (by omega);have AT:=fld (r:=[aK]) ((hf 15 _ rfl).trans AE) A0u rfl;obtain⟨AZ,AL,-,Ab⟩:=DataW.trod_int Tryz.underlying2 AT;obtain rfl:=(List.cons.inj AL).1;obtain⟨Ak,hy16⟩:=hx 16 (by omega)
 have AU:=fld (r:=[aA]) ((hf 16 _ rfl).trans hy16) B0X rfl;obtain⟨L,hL,Ac⟩:=B0z AU;have AG:=AA 16 _ hy16;obtain⟨Al,hy17⟩:=hx 17 (by omega);have AV:=fld (r:=[c20]) ((hf 17 _ rfl).trans hy17) A4p rfl;obtain⟨v17,AM,-,Ad⟩:=DataW.trod_int Tryz.underlying3 AV;obtain rfl:=(List.cons.inj AM).1;refine⟨⟨v0,v1,v2,v3,v4,v5,v6,v7,v8,v9,u9,v10,AY,AW,v12,v13,AX,v14,AZ,aA,v17⟩,L,rfl,⟨?_,bounds_i64 w3,bounds_i64 w4,bounds_i64 w5,bounds_i64 w6,bounds_i64 Aa,bounds_i64 Ab,w9⟩,hL,?_⟩
 ·have:=bounds_u8 w0
  exact⟨this.1,by show v0<256;omega⟩
 ·simp only[Rows.uptoBulk] at b1 b2 b7 b8 AG⊢
  omega
end
end Go.Proofs.YtkanmkcojlefbaaGreatDoor
namespace Go.Proofs.YtkanmkcojlefbaaGreatDoor
open Go.RowKit
theorem B1K {w:World} {B:Nat} {v:Value} {AA:List UInt8} (h:w.ownsRow B 5 1 v AA.length (Lib.byteCells AA)) (h0:0<AA.length):∃g c,v= .slice (some ⟨g,0,none⟩) AA.length c/\At w g 0 (Lib.byteCells AA):=by
 obtain⟨g,c,rfl,-,AB⟩:=A2h h h0 rfl;exact⟨g,c,rfl,AB⟩
theorem B2U {f:Bool×Bool×Bool} {m:KV} {H:Hd} {AA:List UInt8} (h:A4O f m H AA):0<AA.length:=by
 rcases h with ⟨-,B2,hu,rfl⟩|⟨-,-,B2,X,hp,-,rfl⟩|⟨-,-,B2,X,Y,hg,-,-,rfl⟩
 ·rw[hu.ok.len];decide
 ·rw[List.length_append,hp.ok.len];omega
 ·rw[List.length_append,hg.ok.len];omega
theorem A1b.wrecs {a b c:IH} (h:A1b a b) (hc:∃rv,c= {b with recs:=rv}):A1b a c:=by
 obtain⟨rv,rfl⟩:=hc;cases h;constructor<;>assumption
theorem A1I {AB:Array Oper} {rest:List Oper} {o:Oper} {a:Act} {w:World} {Q:Exit->Act->World->Prop} (hw:Region.wanted o (yielded AB a.tmps)=true) (t:TypeId) (x:Operand) (AC:o.op=Op.load t x) (p:Addr) (hx:a.eval x= .pointer (some p)) (v:Value) (AA: (loadVar t p).run Tryz.prog w= .ok v w)
  (h:wpList Tryz.prog AB Q rest (a.put o.dst v) w):wpList Tryz.prog AB Q (o::rest) a w:=
 BigFrame.wpList_want hw λ_ hK=>by
  unfold Oper.wp execOp;simp only[AC,hx,Instr.loadAt,Instr.sureAddr,Sem.run_bind,Sem.run_pure,Result.andThen_ok,AA];exact hK _ _ h
def B3m (w:World) (e:Ending) (w':World):Prop:=e= .returned (.bool true)/\Below w.heap.size w w'
theorem B8c (G0:Nat) (E:Nat->Addr) (w:World) (Bu:Gl G0 E w) (h:IH) (L:List (List UInt8×List UInt8)) (hr:N5 w h.recs L) (hL:L.length<=4294967296) (Am:h.name.length+h.link.length+h.user.length+h.group.length+L1 L<=2305843009213693952) (g:h.Rng) (aE:Addr) (hE:w.cell? ⟨0,0,none⟩=some (I7 aE)):
  Calls Tryz.prog 3 #[.agg h.cells.toArray] w (B3m w):=by
 have hA:=heap_alloc_new w (.cells h.cells.toArray 26);have Aq:Below w.heap.size w (w.alloc (.cells h.cells.toArray 26)):=(Below.refl _ w).alloc (Nat.le_refl _) _;obtain⟨wA,Ay⟩:∃wA,wA=w.alloc (.cells h.cells.toArray 26):=⟨_,rfl⟩;obtain⟨hb,Av⟩:∃hb,hb=w.heap.size:=⟨_,rfl⟩;rw[<-Ay,<-Av] at hA;rw[<-Ay] at Aq;have CP:w.heap.size<=hb:=by rw[Av];exact Nat.le_refl _
 have Bd:=A0 (B1O h L wA (hr.below Aq) (by omega));have AE:=A0 (A3E hA);have HA:=A0 hA;have BH:=A0 Aq;have HW:=A0 Ay;have HB:=A0 Av;have Be:=A0 Bu;have Ap:=A0 g;have HE:=A0 hE;have HR:=A0 hr;have AH:=A0 Am;clear hA Aq Ay Av Bu g hr hE Am;go_enter Tryz.func3,Tryz.ntmps3
 go_upto_region 1 with fail
 rw[<-HW.out,<-HB.out];go_wp2_with (first|(refine D3 rfl 26 _ rfl ⟨hb,0,none⟩ rfl _ AE.out ?_)|fail)
 refine Bd.out.mono ?_;rintro e w1 ⟨b,rfl,BU,CA⟩;have Ao:=A0 ((BU.block hb (A8 HA.out)).trans HA.out);have AR:=A0 (BH.out.trans (BU.mono BH.out.size));have Bg:=A0 CA;clear BU CA AE Bd HA BH;cases b with
 |false=>
  go_wp2_with fail
  go_ret
  exact⟨rfl,AR.out⟩
 |true=>
  have AT:=A0 (Bg.out rfl);have AE:=A0 (A3E Ao.out);have Bh:=A0 (A6T h L w1 (HR.out.below AR.out) hL);clear Bg;go_wp2_with (first|(refine D3 rfl 26 _ rfl ⟨hb,0,none⟩ rfl _ AE.out ?_)|fail)
  refine Bh.out.mono ?_;rintro e w2 ⟨rv,rfl,CD,⟨AB,Ag⟩,BV⟩;obtain⟨q,hq⟩:∃q:IH,q= {h with recs:=rv}:=⟨_,rfl⟩;rw[<-hq];have BX:q.recs=rv:=by rw[hq]
  have HQ:=A0 hq;have Az:=A0 ((BV.block hb (A8 Ao.out)).trans Ao.out);have BC:=A0 (AR.out.trans (BV.mono AR.out.size));have BM:Hid (N5 w2 q.recs L):=A0 (by rw[BX];exact CD);have BI:Hid (A7M q.recs):=A0 (by rw[BX];exact Ag);have AC:q.name=h.name/\q.link=h.link/\q.user=h.user/\q.group=h.group:=by rw[hq];exact⟨rfl,rfl,rfl,rfl⟩
  have Bb:=A0 (A9Z q L w2 BM.out (by rw[AC.1,AC.2.1,AC.2.2.1,AC.2.2.2];exact AH.out) (λr hr=>by have:=A2K hr;have:=AH.out;omega) (by omega) (by rw[AC.1];exact AT.out.1) (by rw[AC.2.1];exact AT.out.2.1) (by rw[AC.2.2.1];exact AT.out.2.2.1) (by rw[AC.2.2.2];exact AT.out.2.2.2.1));clear Ao AR Bh AE CD AB Ag BV hq BX AC AT AH;go_wp2_with fail
  refine Bb.out.mono ?_;rintro e w3 ⟨W,v,rfl,Ar,hv,CL,Br⟩;have BA:=A0 ((Ar.block hb (A8 Az.out)).trans Az.out);have BD:=A0 (BC.out.trans (Ar.mono BC.out.size));have AV:=A0 (BM.out.below Ar);have AS:=A0 Br;have hz:=heap_alloc_new w3 (.cells #[.int .u8 0,.string {data:=#[]},.string {data:=#[]},.int .i64 0,.int .i64 0,.int .i64 0,.int .i64 0,.string {data:=#[]},.string {data:=#[]},.int .i64 0,.int .i64 0,.bool false,.bool false,.int .i64 0,.int .i64 0,.int .i64 0,.int .i64 0,.int .i64 0,.int .i64 0,.slice none 0 0,.int .i64 0] 31);have Ad:Below w3.heap.size w3 (w3.alloc (.cells #[.int .u8 0,.string {data:=#[]},.string {data:=#[]},.int .i64 0,.int .i64 0,.int .i64 0,.int .i64 0,.string {data:=#[]},.string {data:=#[]},.int .i64 0,.int .i64 0,.bool false,.bool false,.int .i64 0,.int .i64 0,.int .i64 0,.int .i64 0,.int .i64 0,.int .i64 0,.slice none 0 0,.int .i64 0] 31)):=(Below.refl _ w3).alloc (Nat.le_refl _) _;obtain⟨w4,Al,Bs,ho4,Ae,-⟩:=A1X W CL rfl hz;have As:Below w3.heap.size w3 w4:=Ae _ _ Ad (Nat.le_refl _);have Aa:=A0 Al;have BP:Hid (SB w3.heap.size W w4):=A0 Bs;have BZ:=A0 ((As.block hb (A8 BA.out)).trans BA.out);have AD:=A0 (BD.out.trans (As.mono BD.out.size));have AW:=A0 (AV.out.below As);clear Ar Br hz Ad Al Bs ho4 Ae As Az BC BM Bb BA BD AV;by_cases An:v=1
  ·obtain⟨f,f1,f3,k,hW,Ah,Aw,AM⟩:=A8p (AS.out An)
   subst An;have AE:=A0 (A3E BZ.out)
   have Ax:q.eff= {h.eff with recs:=q.recs}:=by
    rw[HQ.out];unfold IH.eff;by_cases h0:h.fmt=0
    ·rw[if_pos h0,if_pos (show({h with recs:=rv}:IH).fmt=0 from h0)];rfl
    ·rw[if_neg h0,if_neg (show¬({h with recs:=rv}:IH).fmt=0 from h0)]
   have k2:KOk h.eff L f:=by
    rw[Ax] at k;obtain⟨a1,a2,a3,a4,a5,a6,a7,a8,a9,b1,b2,b3,b4,b5,b6,b7,b8,b9,c1,c2,c3,c4,c5,c6⟩:=k;exact⟨a1,a2,a3,a4,a5,a6,a7,a8,a9,b1,b2,b3,b4,b5,b6,b7,b8,b9,c1,c2,c3,c4,c5,c6⟩
   have BW:q.fmt=h.fmt/\q.mn=h.mn/\q.ms=h.ms:=by rw[HQ.out];exact⟨rfl,rfl,rfl⟩
   rw[BW.1] at Ah Aw;rw[BW.2.1] at Aw;have AG:O9 h.ms h.mn/\(h.hasA=true->O9 h.ats h.atn)/\(h.hasC=true->O9 h.cts h.ctn):=by rw[HQ.out] at AM;exact AM
   have Ak:h.eff.Rng:=by
    have g:=Ap.out;have hm:=k2.inH.ms;have Bz: -9223372036854775808<=h.eff.ms/\h.eff.ms<=9223372036854775807:=by omega
    by_cases h0:h.fmt=0
    ·have e:h.eff=h.rnd:=if_pos h0
     rw[e] at Bz⊢;exact⟨g.typ,g.size,g.mode,g.uid,g.gid,g.maj,g.mnr,Bz⟩
    ·have e:h.eff=h:=if_neg h0
     rw[e];exact g
   have hF:FOk h.eff f (X9 h.fmt):=by
    rcases Ah with h0|h0
    ·have e:h.eff=h.rnd:=if_pos h0
     left
     rw[e,h0];exact⟨rfl,rfl,rfl,rfl⟩
    ·right;rw[h0]
   obtain⟨AA,CB,CC,AP⟩:∃AA:Bool,(AA=false->∀k,E0 (λ_=>none) L k=none)/\(AA=true->∃k,E0 (λ_=>none) L k≠none)/\(L=[]↔AA=false):=by
    cases L with
    |nil=>exact⟨false,λ_ _=>rfl,λe=>(by cases e),λ_=>rfl,λ_=>rfl⟩
    |cons p L=>exact⟨true,λe=>(by cases e),λ_=>⟨p.1,A9Q _ _ _ (.inr (by simp))⟩,λe=>(by cases e),λe=>(by cases e)⟩
   have AL:∀rv,h.hx rv=h.eff.hw (X9 h.fmt) rv:=λrv=>B5X Ap.out k2 ⟨f1,f3⟩ Ah rv;have BS:∀rv,HG (h.hx rv) (E0 (λ_=>none) L):=λrv=>by rw[AL];exact k2.hg Ak ⟨f1,f3⟩ hF rv
   have BT:∀rv,(fOf (h.hx rv) (E0 (λ_=>none) L) AA).1=true\/(fOf (h.hx rv) (E0 (λ_=>none) L) AA).2.1=true\/(fOf (h.hx rv) (E0 (λ_=>none) L) AA).2.2=true:=λrv=>by rw[AL];exact k2.up ⟨f1,f3⟩ hF AA AP.1 _ rv
   have Ai:h.In:=B6p Ap.out k2 AG
   have Bv:=A0 (B2V G0 E w4 (Be.out.below AD.out) h Ai L (HR.out.below AD.out) (by have:=A6O L;have:=k2.sum;omega) (λp hp=>by have:=A2K hp;have:=k2.sum;omega)
    (λe=>by
     have e0:h.fmt=0:=by
      rcases Ah with h0|h0
      ·exact h0
      ·exfalso
       have e:X9 h.fmt=0:=e;rcases Z2 ⟨f1,f3⟩ with ⟨-,e2⟩|⟨-,e2⟩|⟨-,e2⟩<;>(rw[h0,e2] at e;exact absurd e (by decide))
     have h5:=Aw e0;have hm:=Ai.ms;refine⟨Ai.mn.1,Ai.mn.2,h5,?_,?_⟩
     ·show _<=h.ms+62135596800;omega
     ·show h.ms+62135596800<=_;omega) AA (fOf (h.hx (.map none)) (E0 (λ_=>none) L) AA) (R3 ((h.hx (.map none)).st (E0 (λ_=>none) L)).m (E0 (λ_=>none) L) (h.hx (.map none)).typ)
    (λrv=>by
     have:=(BS rv).hok AA CB CC (BT rv);have e:h.hx rv= {h.hx (.map none) with recs:=rv}:=by rw[AL,AL];rfl
     have e2:fOf (h.hx rv) (E0 (λ_=>none) L) AA=fOf (h.hx (.map none)) (E0 (λ_=>none) L) AA:=by rw[e];rfl
     have e3:R3 ((h.hx rv).st (E0 (λ_=>none) L)).m (E0 (λ_=>none) L) (h.hx rv).typ=R3 ((h.hx (.map none)).st (E0 (λ_=>none) L)).m (E0 (λ_=>none) L) (h.hx (.map none)).typ:=by rw[e];rfl
     rw[e2,e3] at this;exact this))
   have Bf:=A0 (BS (.map none));have Bk:=A0 (BT (.map none))
   have Bj:Hid (∀ (f2:Int) (AQ:Value),A1b ({A0e ((h.hx (.map none)).rd f2) with recs:=AQ}:IH) W):=A0 (λf2 AQ=>by
    rw[AL];exact(k2.same f2 (.map none) AQ {h.eff.sprom with fmt:=f} rfl).wrecs ⟨q.recs,by rw[hW,Ax];rfl⟩)
   have AU:=A0 (fun(R2:KV) (L2:List (List UInt8×List UInt8)) (h2:A8j R2 L2) (hR:R2=R3 ((h.hx (.map none)).st (E0 (λ_=>none) L)).m (E0 (λ_=>none) L) (h.hx (.map none)).typ\/(AA=false/\∀q,R2 q=none))=>k2.has (F:=X9 h.fmt) AA AP.2 (.map none) h2 (by rw[<-AL];exact hR));have Bm:W.recs=q.recs:=by rw[hW,Ax];rfl
   have Bo:W.typ≠103:=by
    have:=k.ty;rw[hW];show q.eff.sprom.typ≠103
    omega
   have CK:L.length<4611686018427387904:=by omega
   have BR:=A0 Bm;have CJ:=A0 Bo;have l0:=block_lt_of_cell HE.out;clear AL BS BT k k2 hW Ah Aw AM AG Ak hF CB CC AP Ax BW Ai Bm Bo f1 f3 Ap Be AS;go_wp2_with (first|(refine E6 rfl 31 _ _ rfl ⟨w3.heap.size,0,none⟩ rfl _ rfl w4 Aa.out ?_)|(refine D3 rfl 26 _ rfl ⟨hb,0,none⟩ rfl _ AE.out ?_)|fail)
   refine Bv.out.mono ?_;rintro e w5 ⟨v5,CO,rfl,AO,Aj,Ab⟩;obtain⟨go,c,rfl,Bp⟩:=B1K Aj (B2U AO);have Bc:=A0 (B0d w5 go 0 c CO aE (h.hx (.map none)) (E0 (λ_=>none) L) AA Bf.out (λh1 h2=>by rcases Bk.out with h|h|h;rw[h1] at h;cases h;rw[h2] at h;cases h;exact h) AO Bp ((Ab.cell (p:=⟨0,0,none⟩) (Nat.lt_of_lt_of_le l0 AD.out.size)).trans ((AD.out.cell (p:=⟨0,0,none⟩) l0).trans HE.out)));have AI:=A0 (BP.out.below Ab (A8 BP.out));have BE:=A0 (AD.out.trans (Ab.mono AD.out.size));have AX:=A0 (AW.out.below Ab);clear Bv AO Aj Bp Ab BP AD AW Bf Bk AE BZ Aa;go_wp2_with fail
   refine Bc.out.mono ?_;rintro e w6 ⟨AQ,L2,f2,R2,rfl,AP,By,Bl,CM,Au⟩;obtain⟨x,hx⟩:∃x:IH,x= {A0e ((h.hx (.map none)).rd f2) with recs:=AQ}:=⟨_,rfl⟩;rw[<-hx];have BY:x.recs=AQ:=by rw[hx]
   have AB:x.recs.oneCell'=true:=by rw[BY];exact A8J AP
   have BO:Hid (A1b x W):=A0 (by rw[hx];exact Bj.out f2 AQ);have CG:=A0 (AU.out _ _ By Bl);have AJ:=A0 (AI.out.below Au (A8 AI.out));have BF:=A0 (BE.out.trans (Au.mono BE.out.size));have AY:=A0 (AX.out.below Au);have Bi:Hid (N5 w6 x.recs L2):=A0 (by rw[BY];exact AP);have hz:=heap_alloc_new w6 (.cells #[.int .u8 0,.string {data:=#[]},.string {data:=#[]},.int .i64 0,.int .i64 0,.int .i64 0,.int .i64 0,.string {data:=#[]},.string {data:=#[]},.int .i64 0,.int .i64 0,.bool false,.int .i64 0,.int .i64 0,.bool false,.int .i64 0,.int .i64 0,.int .i64 0,.int .i64 0,.slice none 0 0,.int .i64 0] 26);have Ad:Below w6.heap.size w6 (w6.alloc (.cells #[.int .u8 0,.string {data:=#[]},.string {data:=#[]},.int .i64 0,.int .i64 0,.int .i64 0,.int .i64 0,.string {data:=#[]},.string {data:=#[]},.int .i64 0,.int .i64 0,.bool false,.int .i64 0,.int .i64 0,.bool false,.int .i64 0,.int .i64 0,.int .i64 0,.int .i64 0,.slice none 0 0,.int .i64 0] 26)):=(Below.refl _ w6).alloc (Nat.le_refl _) _;obtain⟨w7,Al,Bt,CN,Af⟩:=A0i x AB rfl hz;have Ac:Below w6.heap.size w6 w7:=Af _ _ Ad (Nat.le_refl _);have Aa:=A0 Al;have BL:=A0 (A3E Bt);have BQ:=A0 (AJ.out.below Ac (A8 AJ.out));have BJ:=A0 BQ.out.load;have Ba:=A0 (BF.out.trans (Ac.mono BF.out.size));have AZ:=A0 (AY.out.below Ac);have CI:=A0 (Bi.out.below Ac);obtain⟨qq,cc,CE,-⟩:=id AZ.out;have Bn:W.recs= .slice qq L.length cc:=by rw[BR.out];exact CE
   have CH:=A0 (B2Z x W L2 L qq cc w7 CI.out (by omega) Bn (by rw[BR.out];exact AZ.out) (by rw[BR.out];exact BI.out) CK CJ.out BO.out CG.out);clear hx BY AB AP By Bl Au hz Ad Al Bt CN Af Ac CE Bn Bc AI BE AX Bj AU AJ BF AY Bi;go_wp2_with (first|(refine E6 rfl 26 _ _ rfl ⟨w6.heap.size,0,none⟩ rfl _ rfl w7 Aa.out ?_)|(refine A1I rfl 26 _ rfl ⟨w6.heap.size,0,none⟩ rfl _ BL.out ?_)|(refine A1I rfl 31 _ rfl ⟨w3.heap.size,0,none⟩ rfl _ BJ.out ?_)|fail)
   refine CH.out.mono ?_;rintro e w8 ⟨rfl,Bq⟩;have CF:=A0 (Ba.out.trans (Bq.mono Ba.out.size));clear Bq;go_wp2_with fail
   go_ret
   exact⟨rfl,CF.out⟩
  ·have v1: (v==1)=false:=by simpa using An
   have v2: (v !=1)=true:=by simpa using An
   clear An;go_wp2_with (first|(refine E6 rfl 31 _ _ rfl ⟨w3.heap.size,0,none⟩ rfl _ rfl w4 Aa.out ?_)|fail)
   go_ret
   exact⟨rfl,AD.out⟩
end Go.Proofs.YtkanmkcojlefbaaGreatDoor
