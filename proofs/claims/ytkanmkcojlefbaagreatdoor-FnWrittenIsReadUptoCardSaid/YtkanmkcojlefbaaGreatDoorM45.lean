/-
  Part of the proof; holds the texts L5a, Tld, Fit5, ReadNil, R15, W13.
-/
import Derived.Test.YtkanmkcojlefbaaGreatDoorM44
set_option maxHeartbeats 4000000
set_option maxRecDepth 100000
set_option linter.unusedSimpArgs false
set_option linter.unusedVariables false
namespace Go.Proofs.YtkanmkcojlefbaaGreatDoor
open Go.ChangeShapes Go.WideShapes Go.ChangeAt Go.RowKit
set_option maxRecDepth 100000
structure FI where
 h:IH
 L:List (List UInt8×List UInt8)
 ds:List UInt8
 dv:Value
 e:Int
def FI.cells (f:FI):List Value:=A0I f.h f.dv f.e
def A4W (w:World) (v:Value) (bs:List UInt8):Prop:=∃p c,v= .slice p bs.length c/\bs.length<=c/\c<=9223372036854775807/\(bs=[]\/∃g o,p=some ⟨g,o,none⟩/\g<w.heap.size/\At w g o (Lib.byteCells bs))
structure A8e (w:World) (f:FI):Prop where
 rng:f.h.Rng
 recs:N5 w f.h.recs f.L
 data:A4W w f.dv f.ds
def FI.sz (f:FI):Nat:=f.h.name.length+f.h.link.length+f.h.user.length+f.h.group.length+L1 f.L+f.ds.length
def szs:List FI->Nat
 | []=>0
 |f::F=>f.sz+szs F
def A9A (w:World) (v:Value) (F:List FI):Prop:=∃p c,v= .slice p F.length c/\F.length<=c/\c<=9223372036854775807/\∀ (j:Nat) (hj:j<F.length),∃g o,p=some ⟨g,o,none⟩/\g<w.heap.size/\At w g (o+j*23) F[j].cells/\A8e w F[j]
theorem A4W.below {w w':World} {v:Value} {bs:List UInt8} (h:A4W w v bs) (f:Below w.heap.size w w'):A4W w' v bs:=by
 obtain⟨p,c,h1,h2,h3,h4⟩:=h;refine⟨p,c,h1,h2,h3,?_⟩;rcases h4 with h|⟨g,o,e,hg,AA⟩
 ·exact .inl h
 ·exact .inr ⟨g,o,e,zL hg f.size,AA.carry (f.block g hg)⟩
theorem A8e.below {w w':World} {f:FI} (h:A8e w f) (k:Below w.heap.size w w'):A8e w' f:=⟨h.rng,h.recs.below k,h.data.below k⟩
theorem A9A.below {w w':World} {v:Value} {F:List FI} (h:A9A w v F) (f:Below w.heap.size w w'):A9A w' v F:=by
 obtain⟨p,c,h1,h2,h3,h4⟩:=h;refine⟨p,c,h1,h2,h3,λj hj=> ?_⟩;obtain⟨g,o,e,hg,AA,hf⟩:=h4 j hj;exact⟨g,o,e,zL hg f.size,AA.carry (f.block g hg),hf.below f⟩
section
variable {H:Type} {enc:TypeId×Value->H} {w:World} {base:Nat} {sp:Nat->Bool} {held:Bool}
theorem B9U:Tryz.prog.cellsOf 35=1:=by kernel_rfl
theorem B6d:Tryz.prog.cellsOf 91=23:=by kernel_rfl
theorem B9j:∀d:DataW H,1<=Rows.uptoBulk d:=by
 intro d;cases d with
 |lit l=>cases l<;>simp[Rows.uptoBulk]
 |_=>simp[Rows.uptoBulk]
theorem B8u (l:List (DataW H)):l.length<=Rows.uptoBulkAll l:=by
 induction l with
 |nil=>exact zW _
 |cons d l ih=>simp only[Rows.uptoBulkAll,List.length_cons];have:=B9j d;omega
theorem B9C {AB:Nat} {v:Value} {x:DataW H×List MemPlace} (h:DataW.trod enc Tryz.prog w base sp held AB 35 [v]=some x):∃bs,A4W w v bs/\bs.length<=Rows.uptoBulk x.1:=by
 rcases DataW.trod_slice Tryz.underlying35 h with ⟨hc,-⟩|⟨a,len,cap,AA,rest,n,-,hc,rfl,-,hl,AI,AO,AJ,-⟩
 ·have hc:v= .slice none 0 0:=(List.cons.inj hc).1
  exact⟨[],⟨none,0,hc,zB _,by omega,.inl rfl⟩,zW _⟩
 ·have hc:v= .slice (some a) len cap:=(List.cons.inj hc).1
  have AM:∀j,j<len->AA[j]?≠none:=λj hj e=>by rw[List.getElem?_eq_none_iff] at e;omega
  have AE:∀j,j<len->∃b:UInt8,w.cell? (a.add j)=some (.int .u8 b.toNat):=λj hj=>by
   have h1:=AJ j hj;rw[B2B,Nat.mul_one] at h1;cases AD:w.cells? base (a.add j) 1 with
   |none=>rw[AD] at h1;exact absurd h1.symm (by rw[Option.bind_none];exact λe=>(AM j hj) e)
   |some cs=>
    obtain⟨c,rfl,q1⟩:=B6X AD;rw[AD,Option.bind_some] at h1;obtain⟨y,hy⟩:∃y,AA[j]?=some y:=⟨_,zF (by omega)⟩;rw[hy] at h1;obtain⟨m,e1,-,wf⟩:=DataW.trod_int Tryz.underlying5 h1;obtain rfl:=(List.cons.inj e1).1;have hb:=bounds_u8 wf;refine⟨UInt8.ofNat m.toNat,q1.trans ?_⟩;have: (UInt8.ofNat m.toNat).toNat=m.toNat:=by rw[UInt8.toNat_ofNat'];omega
    rw[this];congr 2
    omega
  obtain⟨bs,hL,hp⟩:=B8e (p:=λj (b:UInt8)=>w.cell? (a.add j)=some (.int .u8 b.toNat)) len AE;have AL:maxLen=9223372036854775807:=rfl;refine⟨bs,⟨some a,cap,by rw[hc,hL],by omega,by omega,?_⟩,?_⟩
  ·by_cases h0:bs=[]
   ·exact .inl h0
   ·have AG:0<bs.length:=List.length_pos_iff.2 h0
    have AC:=hp 0 AG;have e:a.add 0=a:=by simp[Addr.add]
    rw[e] at AC;have ha:=B1T AC;refine .inr ⟨a.block,a.off,congrArg some ha,zC AC,λj u hj=> ?_⟩
    have AH:j<bs.length:=by
     have:=(zM.1 hj).1;rwa [zJ] at this
    have h1:=hp j AH;have e1:a.add j=⟨a.block,a.off+j,none⟩:=by rw[ha];exact Lib.addr_add _ _ _
    rw[e1] at h1;rw[h1,<-hj,Lib.byteCells,List.getElem?_map,zF AH];rfl
  ·have:=B8u (AA.map (·.1))
   rw[List.length_map] at this;simp only[Rows.uptoBulk];omega
theorem B9Y {AA:Nat} {cs:List Value} {x:DataW H×List MemPlace} (h:DataW.trod enc Tryz.prog w base sp held AA 91 cs=some x):∃f:FI,cs=f.cells/\A8e w f/\f.sz<=13*Rows.uptoBulk x.1:=by
 obtain⟨xs,n,rfl,rfl,AB,hl,hf⟩:=DataW.trod_struct Tryz.underlying91 h;rw[B6d] at AB;have hl:xs.length=3:=hl;have AH:∀ (i:Nat) (y:DataW H×List MemPlace),xs[i]?=some y->Rows.uptoBulk y.1<=Rows.uptoBulkAll (xs.map (·.1)):=λi y hy=>B0V (List.mem_map.2 ⟨y,List.mem_of_getElem? hy,rfl⟩);have hx:∀i,i<3->∃y,xs[i]?=some y:=λi hi=>⟨_,zF (by omega)⟩;obtain⟨y0,AI⟩:=hx 0 (by omega);have h0:=fld (r:=cs.take 21) ((hf 0 _ rfl).trans AI) B0Y rfl;obtain⟨hd,L,e0,AD,AC,AP⟩:=B2v h0;have b0:=AH 0 _ AI;obtain⟨y1,AJ⟩:=hx 1 (by omega);obtain⟨c21,AE⟩:∃c,cs[21]?=some c:=⟨_,zF (by omega)⟩;obtain⟨aA,AG⟩:∃c,cs[22]?=some c:=⟨_,zF (by omega)⟩;have t1: (cs.drop 21).take 1=[c21]:=by rw[List.drop_eq_getElem_cons (by omega:21<cs.length),List.take_succ_cons,List.take_zero];congr 1;exact Option.some.inj ((zF (by omega)).symm.trans AE)
 have t2: (cs.drop 22).take 1=[aA]:=by rw[List.drop_eq_getElem_cons (by omega:22<cs.length),List.take_succ_cons,List.take_zero];congr 1;exact Option.some.inj ((zF (by omega)).symm.trans AG)
 have h1:=fld (r:=[c21]) ((hf 1 _ rfl).trans AJ) B9U t1;obtain⟨bs,AL,AO⟩:=B9C h1;have b1:=AH 1 _ AJ;obtain⟨y2,AM⟩:=hx 2 (by omega);have h2:=fld (r:=[aA]) ((hf 2 _ rfl).trans AM) A4p t2;obtain⟨v2,e2,-,-⟩:=DataW.trod_int Tryz.underlying3 h2;obtain rfl:=(List.cons.inj e2).1;refine⟨⟨hd,L,bs,c21,v2⟩,?_,⟨AD,AC,AL⟩,?_⟩
 ·show cs=hd.cells++[c21,.int .i64 v2]
  rw[<-e0];refine(List.take_append_drop 21 cs).symm.trans ?_;congr 1
  rw[List.drop_eq_getElem_cons (by omega:21<cs.length),List.drop_eq_getElem_cons (by omega:22<cs.length),List.drop_eq_nil_of_le (by omega)];have q1:cs[21]'(by omega)=c21:=Option.some.inj ((zF (by omega)).symm.trans AE);have q2:cs[22]'(by omega)= .int .i64 v2:=Option.some.inj ((zF (by omega)).symm.trans AG);rw[q1,q2]
 ·show hd.name.length+hd.link.length+hd.user.length+hd.group.length+L1 L+bs.length<=_
  simp only[Rows.uptoBulk];omega
theorem B9u:∀ (F:List FI) (AA:List (DataW H×List MemPlace)),AA.length=F.length->(∀ (j:Nat) (hj:j<F.length) (y:DataW H×List MemPlace),AA[j]?=some y->F[j].sz<=13*Rows.uptoBulk y.1)->szs F<=13*Rows.uptoBulkAll (AA.map (·.1)):=by
 intro F;induction F with
 |nil=>intro _ _ _;exact zW _
 |cons p F ih=>
  intro AA hl h;cases AA with
  |nil=>cases hl
  |cons e AA=>
   have h0:=h 0 (by simp) e rfl;have h1:=ih AA (by simpa using hl) (λj hj y hy=>h (j+1) (by simp;omega) y hy);simp only[List.map_cons,Rows.uptoBulkAll,szs,List.getElem_cons_zero] at h0 h1⊢;omega
theorem B9D {AB:Nat} {v:Value} {x:DataW H×List MemPlace} (h:DataW.trod enc Tryz.prog w base sp held AB 45 [v]=some x):∃F,A9A w v F/\szs F<=13*Rows.uptoBulk x.1/\F.length<=Rows.uptoBulk x.1:=by
 rcases DataW.trod_slice Tryz.underlying45 h with ⟨hc,-⟩|⟨a,len,cap,AA,rest,n,-,hc,rfl,-,hl,AH,AO,AI,-⟩
 ·have hc:v= .slice none 0 0:=(List.cons.inj hc).1
  exact⟨[],⟨none,0,hc,zB _,by omega,λj hj=>absurd hj (Nat.not_lt_zero _)⟩,zW _,zW _⟩
 ·have hc:v= .slice (some a) len cap:=(List.cons.inj hc).1
  have AL:∀j,j<len->AA[j]?≠none:=λj hj e=>by rw[List.getElem?_eq_none_iff] at e;omega
  have AD:∀j,j<len->∃f:FI,(∀k u,f.cells[k]?=some u->w.cell? ((a.add (j*23)).add k)=some u)/\A8e w f/\∀y,AA[j]?=some y->f.sz<=13*Rows.uptoBulk y.1:=λj hj=>by
   have h1:=AI j hj;rw[B6d] at h1;cases AC:w.cells? base (a.add (j*23)) 23 with
   |none=>rw[AC] at h1;exact absurd h1.symm (by rw[Option.bind_none];exact λe=>(AL j hj) e)
   |some cs=>
    obtain⟨-,q1,q2⟩:=World.cells?_some AC;rw[AC,Option.bind_some] at h1;obtain⟨y,hy⟩:∃y,AA[j]?=some y:=⟨_,zF (by omega)⟩;rw[hy] at h1;obtain⟨f,rfl,hf,hs⟩:=B9Y h1;exact⟨f,λk u hk=>(q2 k (by have:=(zM.1 hk).1;omega)).trans hk,hf,λy' AG=>by rw[hy] at AG;cases AG;exact hs⟩
  obtain⟨F,hL,hp⟩:=B8e (p:=λj (f:FI)=>(∀k u,f.cells[k]?=some u->w.cell? ((a.add (j*23)).add k)=some u)/\A8e w f/\∀y,AA[j]?=some y->f.sz<=13*Rows.uptoBulk y.1) len AD;have AM:=B9u F AA (by omega) (λj hj y hy=>(hp j hj).2.2 y hy);have AJ:maxLen=9223372036854775807:=rfl;refine⟨F,⟨some a,cap,by rw[hc,hL],by omega,by omega,λj hj=> ?_⟩,by simp only[Rows.uptoBulk];omega,?_⟩
  ·obtain⟨h1,h2,-⟩:=hp j hj
   have ha:a=⟨a.block,a.off,none⟩:=by
    have h0:=(hp 0 (by omega)).1 0 _ rfl;have e: (a.add (0*23)).add 0=a:=by simp[Addr.add]
    rw[e] at h0;exact B1T h0
   have e1:∀k,(a.add (j*23)).add k=⟨a.block,a.off+j*23+k,none⟩:=λk=>by rw[ha];exact(congrArg (·.add k) (Lib.addr_add _ _ _)).trans (Lib.addr_add _ _ _)
   have AE:At w a.block (a.off+j*23) F[j].cells:=λk u hk=>by rw[<-e1];exact h1 k u hk
   exact⟨a.block,a.off,congrArg some ha,zC (a:=⟨a.block,a.off+j*23+0,none⟩) (AE 0 _ rfl),AE,h2⟩
  ·have:=B8u (AA.map (·.1))
   rw[List.length_map] at this;simp only[Rows.uptoBulk];omega
end
end Go.Proofs.YtkanmkcojlefbaaGreatDoor
namespace Go.Proofs.YtkanmkcojlefbaaGreatDoor
open Go.RowKit
theorem A1b.wrecs {a b c:IH} (h:A1b a b) (hc:∃rv,c= {b with recs:=rv}):A1b a c:=by
 obtain⟨rv,rfl⟩:=hc;cases h;constructor<;>assumption
def R0f (L:List (List UInt8×List UInt8)):KV:=E0 (λ_=>none) L
structure B9g (h W:IH) (rv0:Value) (L:List (List UInt8×List UInt8)) (hasR:Bool):Prop where
 inH:h.In
 hrn:h.hd2.fmt=0->0<=h.hd2.mw/\h.hd2.mw<1000000000/\h.hd2.mw≠500000000/\-4611686018427387904<=h.hd2.mx/\h.hd2.mx<=4611686018427387904
 ok:∀rv,HOk ({h.hd2 with recs:=rv}:Hd).prom.rnd (R0f L) hasR (fOf (h.hx (.map none)) (R0f L) hasR) (R3 ((h.hx (.map none)).st (R0f L)).m (R0f L) (h.hx (.map none)).typ)
 hg:HG (h.hx (.map none)) (R0f L)
 up: (fOf (h.hx (.map none)) (R0f L) hasR).1=true\/(fOf (h.hx (.map none)) (R0f L) hasR).2.1=true\/(fOf (h.hx (.map none)) (R0f L) hasR).2.2=true
 same:∀ (f2:Int) (rv2:Value),A1b ({A0e ((h.hx (.map none)).rd f2) with recs:=rv2}:IH) W
 has:∀ (R2:KV) (L2:List (List UInt8×List UInt8)),A8j R2 L2->(R2=R3 ((h.hx (.map none)).st (R0f L)).m (R0f L) (h.hx (.map none)).typ\/(hasR=false/\∀q,R2 q=none))->B1j L2 L
 wr:W.recs=rv0
 wt:W.typ≠103
 sum:L1 L<=524288
 typ: (h.hx (.map none)).typ=W.typ
 size: (h.hx (.map none)).size=W.size
theorem C1M (h W:IH) (AC:Value) (L:List (List UInt8×List UInt8)) (g:h.Rng) (hc:B1h ({h with recs:=AC}:IH) L W):∃AA,B9g h W AC L AA:=by
 obtain⟨q,hq⟩:∃q:IH,q= {h with recs:=AC}:=⟨_,rfl⟩;rw[<-hq] at hc;obtain⟨f,f1,f3,k,hW,AH,AJ,AD⟩:=A8p hc
 have AG:q.eff= {h.eff with recs:=q.recs}:=by
  rw[hq];unfold IH.eff;by_cases h0:h.fmt=0
  ·rw[if_pos h0,if_pos (show({h with recs:=AC}:IH).fmt=0 from h0)];rfl
  ·rw[if_neg h0,if_neg (show¬({h with recs:=AC}:IH).fmt=0 from h0)]
 have k2:KOk h.eff L f:=by
  rw[AG] at k;obtain⟨a1,a2,a3,a4,a5,a6,a7,a8,a9,b1,b2,b3,b4,b5,b6,b7,b8,b9,c1,c2,c3,c4,c5,c6⟩:=k;exact⟨a1,a2,a3,a4,a5,a6,a7,a8,a9,b1,b2,b3,b4,b5,b6,b7,b8,b9,c1,c2,c3,c4,c5,c6⟩
 have AQ:q.fmt=h.fmt/\q.mn=h.mn/\q.ms=h.ms:=by rw[hq];exact⟨rfl,rfl,rfl⟩
 rw[AQ.1] at AH AJ;rw[AQ.2.1] at AJ;have AE:O9 h.ms h.mn/\(h.hasA=true->O9 h.ats h.atn)/\(h.hasC=true->O9 h.cts h.ctn):=by rw[hq] at AD;exact AD
 have AL:h.eff.Rng:=by
  have hm:=k2.inH.ms;have AP: -9223372036854775808<=h.eff.ms/\h.eff.ms<=9223372036854775807:=by omega
  by_cases h0:h.fmt=0
  ·have e:h.eff=h.rnd:=if_pos h0
   rw[e] at AP⊢;exact⟨g.typ,g.size,g.mode,g.uid,g.gid,g.maj,g.mnr,AP⟩
  ·have e:h.eff=h:=if_neg h0
   rw[e];exact g
 have hF:FOk h.eff f (X9 h.fmt):=by
  rcases AH with h0|h0
  ·have e:h.eff=h.rnd:=if_pos h0
   left
   rw[e,h0];exact⟨rfl,rfl,rfl,rfl⟩
  ·right;rw[h0]
 obtain⟨AA,AU,AV,AR⟩:∃AA:Bool,(AA=false->∀k,E0 (λ_=>none) L k=none)/\(AA=true->∃k,E0 (λ_=>none) L k≠none)/\(L=[]↔AA=false):=by
  cases L with
  |nil=>exact⟨false,λ_ _=>rfl,λe=>(by cases e),λ_=>rfl,λ_=>rfl⟩
  |cons p L=>exact⟨true,λe=>(by cases e),λ_=>⟨p.1,A9Q _ _ _ (.inr (by simp))⟩,λe=>(by cases e),λe=>(by cases e)⟩
 have AB:∀rv,h.hx rv=h.eff.hw (X9 h.fmt) rv:=λrv=>B5X g k2 ⟨f1,f3⟩ AH rv;have AM:∀rv,HG (h.hx rv) (E0 (λ_=>none) L):=λrv=>by rw[AB];exact k2.hg AL ⟨f1,f3⟩ hF rv
 have AO:∀rv,(fOf (h.hx rv) (E0 (λ_=>none) L) AA).1=true\/(fOf (h.hx rv) (E0 (λ_=>none) L) AA).2.1=true\/(fOf (h.hx rv) (E0 (λ_=>none) L) AA).2.2=true:=λrv=>by rw[AB];exact k2.up ⟨f1,f3⟩ hF AA AR.1 _ rv
 have AI:h.In:=B6p g k2 AE;have AS:W.recs=q.recs:=by rw[hW,AG];rfl
 have AT:q.recs=AC:=by rw[hq]
 refine⟨AA,AI,?_,?_,AM _,AO _,?_,?_,AS.trans AT,?_,?_,?_,?_⟩
 ·intro e
  have e0:h.fmt=0:=by
   rcases AH with h0|h0
   ·exact h0
   ·exfalso
    have e:X9 h.fmt=0:=e;rcases Z2 ⟨f1,f3⟩ with ⟨-,e2⟩|⟨-,e2⟩|⟨-,e2⟩<;>(rw[h0,e2] at e;exact absurd e (by decide))
  have h5:=AJ e0;have hm:=AI.ms;refine⟨AI.mn.1,AI.mn.2,h5,?_,?_⟩
  ·show _<=h.ms+62135596800;omega
  ·show h.ms+62135596800<=_;omega
 ·intro rv
  have:=(AM rv).hok AA AU AV (AO rv);have e:h.hx rv= {h.hx (.map none) with recs:=rv}:=by rw[AB,AB];rfl
  have e2:fOf (h.hx rv) (E0 (λ_=>none) L) AA=fOf (h.hx (.map none)) (E0 (λ_=>none) L) AA:=by rw[e];rfl
  have e3:R3 ((h.hx rv).st (E0 (λ_=>none) L)).m (E0 (λ_=>none) L) (h.hx rv).typ=R3 ((h.hx (.map none)).st (E0 (λ_=>none) L)).m (E0 (λ_=>none) L) (h.hx (.map none)).typ:=by rw[e];rfl
  rw[e2,e3] at this;exact this
 ·intro f2 AW
  rw[AB];exact(k2.same f2 (.map none) AW {h.eff.sprom with fmt:=f} rfl).wrecs ⟨q.recs,by rw[hW,AG];rfl⟩
 ·exact λR2 L2 h2 hR=>k2.has (F:=X9 h.fmt) AA AR.2 (.map none) h2 (by rw[<-AB];exact hR)
 ·have:=k.ty
  rw[hW];show q.eff.sprom.typ≠103
  omega
 ·have:=k.sum;omega
 ·rw[AB,hW,AG];exact A6t _ _ _
 ·rw[AB,hW,AG];rfl
theorem N5.one5 {w:World} {v:Value} {L:List (List UInt8×List UInt8)} (h:N5 w v L):v.oneCell'=true:=by
 obtain⟨p,c,rfl,-⟩:=h;rfl
theorem A4W.one {w:World} {v:Value} {bs:List UInt8} (h:A4W w v bs):v.oneCell'=true:=by
 obtain⟨p,c,rfl,-⟩:=h;rfl
def z91:Array Value:=#[.int .u8 0,.string {data:=#[]},.string {data:=#[]},.int .i64 0,.int .i64 0,.int .i64 0,.int .i64 0,.string {data:=#[]},.string {data:=#[]},.int .i64 0,.int .i64 0,.bool false,.int .i64 0,.int .i64 0,.bool false,.int .i64 0,.int .i64 0,.int .i64 0,.int .i64 0,.slice none 0 0,.int .i64 0,.slice none 0 0,.int .i64 0]
theorem B9H {w:World} {f:FI} (h:A8e w f):∃w',(storeVar 91 ⟨w.heap.size,0,none⟩ (.agg f.cells.toArray)).run Tryz.prog (w.alloc (.cells z91 91))= .ok () w'/\w'.heap[w.heap.size]?=some (.cells f.cells.toArray 91 (0,0))/\Below w.heap.size w w'/\w.heap.size<w'.heap.size:=by
 obtain⟨w',h1,h2,-,h4,-⟩:=B7u f.h f.dv f.e h.recs.one5 h.data.one rfl (zI w (.cells z91 91));exact⟨w',h1,h2,h4 _ _ ((zD _ _).alloc (zB _) _) (zB _),A8 h2⟩
theorem C1N:∃d,Tryz.prog.underlying 91=some d/\B1s d=true:=⟨_,Tryz.underlying91,rfl⟩
theorem C0J: (Tryz.prog.info? 26).map (·.size)=some 21:=by kernel_rfl
theorem B2g {w:World} {g o:Nat} {f:FI} (h:At w g o f.cells): (loadVar 91 ⟨g,o,none⟩).run Tryz.prog w= .ok (.agg f.cells.toArray) w:=by
 obtain⟨d,h1,h2⟩:=C1N;exact A2A w g o 91 f.cells.toArray (by simpa using h) d h1 h2 B9n
theorem B3f {w:World} {g o:Nat} {h:IH} {l:List Value} (k:At w g o (h.cells++l)): (loadVar 26 ⟨g,o,none⟩).run Tryz.prog w= .ok (.agg h.cells.toArray) w:=by
 obtain⟨d,h1,h2⟩:=B7h;refine A2A w g o 26 h.cells.toArray (λj v hj=>k j v ?_) d h1 h2 C0J;rw[List.toList_toArray] at hj;rw[zX (zM.1 hj).1];exact hj
theorem A7H {w:World} {g:Nat} {f:FI} (h:w.heap[g]?=some (.cells f.cells.toArray 91 (0,0))):At w g 0 f.cells:=
 At.of_heap h (λj v hj=>by rw[Nat.zero_add,List.getElem?_toArray];exact hj)
theorem A4W.slice {w:World} {v:Value} {bs:List UInt8} (h:A4W w v bs):∃p c,v= .slice p bs.length c:=by
 obtain⟨p,c,h,-⟩:=h;exact⟨p,c,h⟩
def B9J (f:FI):Prop:=B4n f.h f.L/\f.ds.length<=2147483647
theorem B9c (f:FI) (w:World) (h:A8e w f) (hL:f.L.length<=9223372036854775807):Calls Tryz.prog 47 #[.agg f.cells.toArray] w (A5y (B9J f) w):=by
 obtain⟨wA,AA⟩:∃wA,wA=w.alloc (.cells f.cells.toArray 91):=⟨_,rfl⟩;have hb:Below w.heap.size w wA:=by rw[AA];exact(zD _ _).alloc (zB _) _
 have hg:wA.heap[w.heap.size]?=some (.cells f.cells.toArray 91 (0,0)):=by rw[AA];exact zI _ _
 have AE:=B3f (h:=f.h) (l:=[f.dv,.int .i64 f.e]) (A7H hg);have HF:=A0 (B1O f.h f.L wA (h.recs.below hb) hL);obtain⟨p,c,hs⟩:=h.data.slice;have HS:=A0 hs;have HG:=A0 hg;have HB:=A0 hb;have HW:=A0 AA;have AD:=A0 AE;clear hb hg AA hs AE;go_enter Tryz.func47,Tryz.ntmps47
 go_upto_region 1 with fail
 rw[<-HW.out];go_wp2_with (first|(refine D3 rfl 26 _ rfl ⟨w.heap.size,0,none⟩ rfl _ AD.out ?_)|fail)
 refine HF.out.mono ?_;rintro e w1 ⟨b,rfl,AC,AG⟩;have AB:=A0 (HB.out.trans (AC.mono HB.out.size));have HP:=A0 AG
 have c1:w1.cell? ⟨w.heap.size,21,none⟩=some (.slice p f.ds.length c):=by
  rw[<-HS.out];exact A7H ((AC.block _ (A8 HG.out)).trans HG.out) 21 _ rfl
 clear AC AG HW AD HF;cases b with
 |false=>
  go_wp2_with fail
  go_ret
  exact⟨false,rfl,AB.out,λh=>by cases h⟩
 |true=>
  by_cases hf: (2147483647:Int)<f.ds.length
  ·go_wp2_with fail
   go_ret
   exact⟨false,rfl,AB.out,λh=>by cases h⟩
  ·have HF:Hid (B9J f):=A0 ⟨HP.out rfl,by omega⟩
   go_wp2_with fail
   go_ret
   exact⟨true,rfl,AB.out,λ_=>HF.out⟩
def C0S (F:List FI):Prop:=∀ (j:Nat) f,F[j]?=some f->B9J f
theorem B9b (v:Value) (F:List FI) (w:World) (h:A9A w v F) (hF:∀f∈F,f.L.length<=9223372036854775807):Calls Tryz.prog 17 #[v] w (A5y (C0S F) w):=by
 obtain⟨p,c,rfl,AU,AV,AG⟩:=h;have AL:=A0 AG;have AM:=A0 hF;clear AG hF;by_cases h1: (2147483647:Int)<F.length
 ·go_enter Tryz.func17,Tryz.ntmps17
  go_wp2_with fail
  go_ret
  exact⟨false,rfl,zD _ _,λh=>by cases h⟩
 ·go_enter Tryz.func17,Tryz.ntmps17
  go_wp2_with fail
  go_loopw [10] (λs10 wr=>∃k:Nat,s10= .int .i64 k/\k<=F.length/\Hid (∀ (j:Nat) q,j<k->F[j]?=some q->B9J q)/\Hid (Below w.heap.size w wr)) (λs10 _=>F.length- (intOf s10).toNat)
  case atStart=>exact⟨0,rfl,zW _,A0 (λj q h=>by omega),A0 (zD _ _)⟩
  case round=>
   obtain⟨k,rfl,hk,hF,hB⟩:=hrel;by_cases AB:k<F.length
   ·obtain⟨rg,ro,rfl,AT,k1,k2⟩:=AL.out k AB
    have HK:=A0 (zF AB);have AS:=AM.out F[k] (List.getElem_mem AB);generalize F[k]=q at*;have hq:=k2.below hB.out;have AP:=A0 (B2g (k1.carry (hB.out.block rg AT)));obtain⟨w2,AJ,AH,AA,AW⟩:=B9H hq;have AR:=A0 AJ;have AO:=A0 (B2g (A7H AH));have AC:=A0 (hB.out.trans (AA.mono hB.out.size));have HC:=A0 (B9c q w2 (hq.below AA) AS);clear k1 k2 hq AJ AH AA;go_wp2_with (first|(refine D3 rfl 91 _ rfl ⟨rg,ro+k*23,none⟩ rfl _ AP.out ?_)|(refine E6 rfl 91 _ _ rfl ⟨wr.heap.size,0,none⟩ rfl (.agg q.cells.toArray) rfl w2 AR.out ?_)|(refine D3 rfl 91 _ rfl ⟨wr.heap.size,0,none⟩ rfl _ AO.out ?_)|fail)
    refine HC.out.mono ?_;rintro e w3 ⟨b,rfl,AE,AI⟩;have AQ:=A0 AI;have AD:=A0 (AC.out.trans (AE.mono AC.out.size));clear AE AI;cases b with
    |false=>
     go_wp2_with fail
     go_ret
     exact⟨false,rfl,AD.out,λh=>by cases h⟩
    |true=>
     go_wp2_with fail
     go_roundw
     case rel=>exact⟨k+1,by go_num,by omega,A0 (λj q hj hq=>if h:j=k then by rw[h,HK.out] at hq;cases hq;exact AQ.out (by trivial) else hF.out j q (by omega) hq),AD⟩
     case measure=>simp[intOf];omega
   ·have HF:Hid (C0S F):=A0 λj q hq=>hF.out j q (by have:=(zM.1 hq).1;omega) hq
    go_wp2_with fail
    go_ret
    exact⟨true,rfl,hB.out,λh=>HF.out⟩
def B5F (w:World) (n:Nat) (bs:List UInt8) (e:Ending) (w':World):Prop:=
 ∃g c,e= .returned (.slice (some ⟨g,0,none⟩) n c)/\w.heap.size<=g/\n<=c/\At w' g 0 (Lib.byteCells bs)/\(∃cur,w'.heap[g]?=some (.cells cur 5))/\Below w.heap.size w w'
theorem B4u (w:World) (g o n c:Nat) (bs:List UInt8) (AD:At w g o (Lib.byteCells bs)) (hn:bs.length=n) (AC:n<=140737488355328):
  Calls Tryz.prog 36 #[.slice (some ⟨g,o,none⟩) n c] w (B5F w n bs):=by
 refine(Tryz.bytes_Clone_at ⟨g,o,none⟩ n c (bs.map λb=>(b.toNat:Int)) w (by simpa using hn) AC (λi hi=> ?_)).mono ?_
 ·refine AD.src i _ ?_
  simp[Lib.byteCells,hn,hi]
 ·rintro e w' ⟨v',rfl,AB,AH,hb⟩
  have hx: (bs.map λb=>(b.toNat:Int)).map (Value.int .u8)=Lib.byteCells bs:=by simp[Lib.byteCells]
  rw[hx] at AB;rcases AB.2 with ⟨h1,-⟩|⟨g',cap,cur,rfl,AE,AA,AG,-,-,AI⟩
  ·exact absurd h1 AH
  ·refine⟨g',cap,rfl,AE,AG,At.of_heap AA (λj v hj=> ?_),⟨cur,AA⟩,hb⟩
   rw[<-AI,List.getElem?_take] at hj;split at hj
   ·simpa using hj
   ·cases hj
theorem A1t (w:World) (g n c:Nat):Calls Tryz.prog 35 #[.slice (some ⟨g,0,none⟩) n c] w λe w'=>e= .returned (.pointer (some ⟨w.heap.size,0,none⟩))/\RD w.heap.size g n c 0 w'/\Below w.heap.size w w':=by
 go_enter Tryz.func35,Tryz.ntmps35
 go_wp2
 go_ret
 exact⟨rfl,⟨-1,zI w _⟩,(zD _ _).alloc (zB _) _⟩
theorem A6F (w:World) (r:Nat):Calls Tryz.prog 34 #[.iface 84 (.pointer (some ⟨r,0,none⟩))] w λe w'=>
  e= .returned (.pointer (some ⟨w.heap.size+1,0,none⟩))/\FRd w.heap.size r 0 w'/\TR (w.heap.size+1) r 0 (.iface 146 (.pointer (some ⟨w.heap.size,0,none⟩))) A0d .nilIface w'/\Below w.heap.size w w':=by
 go_enter Tryz.func34,Tryz.ntmps34
 go_wp2
 go_ret
 rw[A9J];exact⟨rfl,heap_alloc2_old w _ _,⟨heap_alloc2_new w _ _,A3y⟩,((zD _ _).alloc (zB _) _).alloc (by simp) _⟩
def C0B (es:List Ent) (w:World) (e:Ending) (w':World):Prop:=
 ∃v,e= .returned (.tuple #[v,.int .i64 1])/\(∃B cs,w'.ownsRow B 91 23 v es.length cs/\B7q w' B es cs)/\Below w.heap.size w w'
theorem B9a (w:World) (g c:Nat) (bs:List UInt8) (aE:Addr) (es:List Ent) (AO:∀e∈es,C0Z e) (AW:es.length<=4294967296) (AM:bs=arc es++List.replicate 1024 0) (AA:bs.length<=140737488355328) (AL:At w g 0 (Lib.byteCells bs)) (hE:w.cell? ⟨0,0,none⟩=some (I7 aE)):
  Calls Tryz.prog 15 #[.slice (some ⟨g,0,none⟩) bs.length c,.int .i64 1048577] w (C0B es w):=by
 have HC:=A0 (B4u w g 0 bs.length c _ AL rfl AA);have HE:=A0 hE;have AS:=A0 AO;have AR:=A0 AM;have l0:=zC hE;obtain⟨n,hn⟩:∃n,n=bs.length:=⟨_,rfl⟩;have HN:=A0 hn;rw[<-hn] at HC AA⊢;clear AL hE AO AM hn;go_enter Tryz.func15,Tryz.ntmps15
 go_wp2_with fail
 refine HC.out.mono ?_;rintro e w1 ⟨g1,c1,rfl,Ac,AU,AH,AC,AD⟩;go_wp2_with fail
 refine(A1t w1 g1 n c1).mono ?_;rintro e w2 ⟨rfl,AQ,AE⟩;go_wp2_with fail
 refine(A6F w2 w1.heap.size).mono ?_;rintro e w3 ⟨rfl,AX,AZ,AG⟩;go_wp2_with fail
 have Aa:g1<w1.heap.size:=A8 AC.choose_spec;have Ab:w1.heap.size<w2.heap.size:=by obtain⟨p,h⟩:=AQ;exact A8 h
 have AY:RD w1.heap.size g1 n c1 0 w3:=by obtain⟨p,h⟩:=AQ;exact⟨p,(AG.block _ Ab).trans h⟩
 have AI:At w3 g1 0 _:=(AH.carry (AE.block g1 Aa)).carry (AG.block g1 (by omega));have AJ:Below w.heap.size w w3:=(AD.trans (AE.mono AD.size)).trans (AG.mono (zP AD.size AE.size));have AT:=(AJ.cell (p:=⟨0,0,none⟩) l0).trans HE.out;have s1:=AD.size;have s2:=AE.size;have s3:=AG.size;refine(C0H w3 (w2.heap.size+1) w1.heap.size g1 n c1 w2.heap.size bs A0d aE es AS.out AW AY AX AZ AR.out HN.out.symm AA AU AI (by simp;omega) (by omega) AT (by simp;omega)).mono ?_;rintro e w4 ⟨v,rfl,⟨cs,ho,AV⟩,AB⟩;go_wp2_with fail
 go_ret2
 refine⟨v,rfl,⟨_,cs,ho,AV⟩,AJ.trans ?_⟩;refine⟨AB.os,AB.tape,AB.output,AB.size,λk hk=> ?_⟩;obtain⟨o,AP⟩:∃o,w3.heap[k]?=some o:=⟨_,Array.getElem?_eq_getElem (by omega)⟩;rw[AP];exact AB.block k o AP (by omega) (by simp;omega)
theorem Fr.below_to {B B0:Nat} {S:List Nat} {w w':World} (f:Fr B S w w') (hB:B0<=B) (hw:B0<=w.heap.size) (hS:∀k∈S,B0<=k):Below B0 w w':=
 ⟨f.os,f.tape,f.output,f.size,λi hi=>by
  obtain⟨o,ho⟩:∃o,w.heap[i]?=some o:=⟨_,Array.getElem?_eq_getElem (by omega)⟩;rw[ho];exact f.same ho (λhm=>by have:=hS i hm;omega) (.inl (by omega))⟩
structure WrQ (B tw b:Nat) (bs:List UInt8) (en:Ent) (w w':World) (fw2:Nat) (hdr2:List Value) (blk2:List UInt8):Prop where
 Bf:W3 B b (bs++en.out) w'
 T:TW tw b fw2 en.pd hdr2 (Lib.byteCells blk2) .nilIface w'
 l:blk2.length=512
 F:FW fw2 b en.ds.length w'
 lo:w.heap.size<=fw2
 hi:fw2<w'.heap.size
 K:Fr B [b,tw] w w'
 ol:en.out.length<=8388608
 dl:en.ds.length<=1048576
 pd:en.pd<512
def B6Z (G0:Nat) (E:Nat->Addr) (f:FI) (P:Ent->Prop):Prop:=
 ∀ (B tw b fw AC oh:Nat) (rv:Value) (A5p:List Value) (AD bs:List UInt8) (w:World),TW tw b fw AC A5p (Lib.byteCells AD) .nilIface w->W3 B b bs w->FW fw b 0 w->Gl G0 E w->G0<=B->G0<=tw->G0<=fw->B<=w.heap.size->AD.length=512->AC<512->
  w.heap[oh]?=some (.cells ({f.h.hd2 with recs:=rv}:Hd).cells.toArray 130 (0,0))->J4 w rv (E0 (λ_=>none) f.L) w.heap.size->rv.oneCell'=true->bs.length+8389608<=140737488355328->
  Calls Tryz.prog 30 #[.pointer (some ⟨tw,0,none⟩),.pointer (some ⟨oh,0,none⟩)] w λe w'=>e= .returned .nilIface/\∃en AE AB AA,P en/\en.ds=f.ds/\WrQ B tw b (bs++List.replicate AC 0) en w w' AE AB AA
structure QSt (w0:World) (P:Nat->Ent->Prop) (tw k:Nat) (es:List Ent) (bs:List UInt8) (fw pad:Nat) (hdr:List Value) (blk:List UInt8) (w:World):Prop where
 len:es.length=k
 ok:∀ (j:Nat) en,es[j]?=some en->P j en
 ba:bs++List.replicate pad 0=arc es
 Bf:W3 w0.heap.size w0.heap.size bs w
 T:TW tw w0.heap.size fw pad hdr (Lib.byteCells blk) .nilIface w
 l:blk.length=512
 F:FW fw w0.heap.size 0 w
 pd:pad<512
 lo:w0.heap.size<=fw
 K:Below w0.heap.size w0 w
 al: (arc es).length<=k*16777216
theorem C0D (a b:List Ent):arc (a++b)=arc a++arc b:=by
 induction a with
 |nil=>rfl
 |cons e a ih=>simp only[List.cons_append,arc,ih,List.append_assoc]
def C1D (P:Nat->Ent->Prop) (n:Nat) (w:World) (e:Ending) (w':World):Prop:=
 ∃v es,e= .returned (.tuple #[v,.int .i64 0])/\es.length=n/\(∀ (j:Nat) en,es[j]?=some en->P j en)/\(arc es).length<=n*16777216/\w'.ownsRow w.heap.size 5 1 v (arc es++List.replicate 1024 0).length (Lib.byteCells (arc es++List.replicate 1024 0))/\Below w.heap.size w w'
theorem C0R (G0:Nat) (E:Nat->Addr) (P:Nat->Ent->Prop) (v:Value) (F:List FI) (w:World) (h:A9A w v F) (Av:Gl G0 E w) (aC:Addr) (hC:w.cell? ⟨4,0,none⟩=some (.iface 245 (.pointer (some aC)))) (Bn:F.length<=1048576)
  (hT:∀ (j:Nat) f,F[j]?=some f->f.h.In/\f.L.length<=1048576/\(∀p∈f.L,p.1.length<=9223372036854775807/\p.2.length<=9223372036854775807)/\B6Z G0 E f (P j)):
  Calls Tryz.prog 13 #[v] w (C1D P F.length w):=by
 obtain⟨p,c,rfl,Bj,Bp,AV⟩:=h;have AE:=A0 AV;have HT:=A0 hT;have Be:=A0 Av;have HC:=A0 hC;have h4:=zC hC;have hG:=Av.le;clear AV hT Av hC;go_enter Tryz.func13,Tryz.ntmps13
 go_wp2_with fail
 refine(A6G _ _).mono ?_;rintro e w1 ⟨rfl,As,Ai,BO,AU⟩;have BC:=AU w.heap.size w.heap.size [] (Lib.fresh_isBuffer 70 5 w);have e1: (w.alloc (Obj.cells #[Value.slice none 0 0,Value.int IntKind.i64 0,Value.int IntKind.i8 0] 70)).heap.size=w.heap.size+1:=Array.size_push ..;have BI:Below w.heap.size w w1:=((zD _ w).alloc (zB _) _).trans ((BO.below_of (zB _) (by simp)).mono (by rw[e1];omega));rw[e1] at As Ai⊢;have HQ:Hid (∃es bs fw AA AH AG,QSt w P (w.heap.size+1+1) 0 es bs fw AA AH AG w1):=A0 ⟨[],[],_,0,_,List.replicate 512 0,⟨rfl,λj en h=>(by cases h),rfl,BC,Ai,z7,As,by decide,by omega,BI,zW _⟩⟩;obtain⟨tw,AZ⟩:∃tw,tw=w.heap.size+1+1:=⟨_,rfl⟩;rw[<-AZ] at HQ⊢;have Ao:=A0 AZ;clear AU e1 BO As Ai BC BI AZ;go_wp2_with fail
 go_loopw [16] (λs16 wr=>∃k:Nat,s16= .int .i64 k/\k<=F.length/\Hid (∃es bs fw AA AH AG,QSt w P tw k es bs fw AA AH AG wr)) (λs16 _=>F.length- (intOf s16).toNat)
 case atStart=>exact⟨0,rfl,zW _,HQ⟩
 case round=>
  clear HQ;obtain⟨k,rfl,hk,hQ⟩:=hrel;obtain⟨es,bs,fw,AA,AH,AG,hq⟩:=hQ.out;have HQ:=A0 hq;have BU:=hq.pd;have Bi:=hq.al;have Bo:bs.length+AA=(arc es).length:=by rw[<-hq.ba,zH,z7]
  clear hQ hq;by_cases BS:k<F.length
  ·obtain⟨rg,ro,rfl,Bm,k1,k2⟩:=AE.out k BS
   obtain⟨t1,t2,t3,t4⟩:=HT.out k F[k] (zF BS);generalize F[k]=f at*;have Ar:=k2.below HQ.out.K;have Bb:=A0 k2.data;have BA:=A0 (B2g (k1.carry (HQ.out.K.block rg Bm)));obtain⟨w2,BX,Au,AM,BW⟩:=B9H Ar;have Ax:=A0 (Ar.below AM);have An:=A0 BX;have Al:=A0 Au;have Aj:=A0 AM;have Am:=A0 (B3f (h:=f.h) (l:=[f.dv,.int .i64 f.e]) (A7H Au));have Ay:=A0 (A9B w2 f.h t1 f.L Ax.out.recs t2 t3);have AQ:=A0 t4;obtain⟨g7,Ae⟩:∃g7,g7=wr.heap.size:=⟨_,rfl⟩;rw[<-Ae] at An Al Am BW;have H7:=A0 Ae;clear k1 k2 t1 t2 t3 t4 Ar BX Au AM;go_upto_region 6 with (first|(refine D3 rfl 91 _ rfl ⟨rg,ro+k*23,none⟩ rfl _ BA.out ?_)|(rw[<-Ae];refine E6 rfl 91 _ _ rfl ⟨g7,0,none⟩ rfl (.agg f.cells.toArray) rfl w2 An.out ?_)|fail)
   clear Ae;go_wp2_with (first|(refine D3 rfl 26 _ rfl ⟨g7,0,none⟩ rfl _ Am.out ?_)|fail)
   refine Ay.out.mono ?_;rintro e w3 ⟨oh,rv,rfl,BT,BV,Ad,Bl,AY⟩;have Aa:Below wr.heap.size wr w3:=Aj.out.trans (Ad.mono Aj.out.size);have BR:=A8 HQ.out.T.1;have Af:=A8 HQ.out.F;have T3:TW tw w.heap.size fw AA AH (Lib.byteCells AG) .nilIface w3:=⟨(Aa.block tw BR).trans HQ.out.T.1,HQ.out.T.2⟩;have F3:FW fw w.heap.size 0 w3:=(Aa.block fw Af).trans HQ.out.F;have B3:W3 w.heap.size w.heap.size bs w3:=HQ.out.Bf.carry (B':=wr.heap.size) (S:=[]) (Fr.of_below Aa _ _) (zB _) (by simp) (by simp);have Ac:=HQ.out.K.trans (Aa.mono HQ.out.K.size);have Br:=HQ.out.lo;have AZ:w.heap.size+2<=tw/\tw<=w.heap.size+2:=by have:=Ao.out;omega
   have BQ:k*16777216<=1048576*16777216:=Nat.mul_le_mul_right _ (by omega);have Ak:=A0 (AQ.out w.heap.size tw w.heap.size fw AA oh rv AH AG bs w3 T3 B3 F3 (Be.out.below Ac) hG (by omega) (by omega) Ac.size HQ.out.l BU BT BV AY (by omega));have G3:=(Ad.block g7 BW).trans Al.out;have AP:=A0 Ac;have Bd:=A0 G3;have Bt:=Ad.size;clear BT BV Ad Bl AY Aa T3 F3 B3 Ac G3 Ay AQ Am An BA Al Ax Aj BR Af;go_wp2_with fail
   refine Ak.out.mono ?_;rintro e w4 ⟨rfl,en,AL,AD,AB,hP,AX,hW⟩;have Ai:=A8 HQ.out.T.1;have h7:wr.heap.size<=g7/\g7<=wr.heap.size:=by have:=H7.out;omega
   have Ap:Below w.heap.size w3 w4:=hW.K.below_to (zB _) AP.out.size (by simp;omega);have AJ:=A0 (AP.out.trans Ap);have Bk:w.heap.size<g7:=by omega
   have G4:w4.heap[g7]?=some (.cells f.cells.toArray 91 (0,0)):=hW.K.cells Bd.out (by simp;omega) (.inr (by decide));obtain⟨pp,cc,Aq,AV,BM,Aw⟩:=id Bb.out;have c21:w4.cell? ⟨g7,21,none⟩=some (.slice pp f.ds.length cc):=by rw[<-Aq];exact A7H G4 21 _ rfl
   have Bv:=hW.lo;have By:=hW.ol;have Bu:=hW.dl;have BY:=hW.pd;have AI:en.ds.length=f.ds.length:=by rw[AX]
   have Ah:∀ (j:Nat) Ab,(es++[en])[j]?=some Ab->P j Ab:=λj Ab hj=>by
    rcases Nat.lt_trichotomy j es.length with h|h|h
    ·rw[zX h] at hj;exact HQ.out.ok j Ab hj
    ·rw[h,zT (zB _),Nat.sub_self] at hj
     cases hj;rw[h,HQ.out.len];exact hP
    ·rw[List.getElem?_eq_none (by simp;omega)] at hj;cases hj
   have AR:arc (es++[en])=bs++List.replicate AA 0++en.out++en.ds++List.replicate en.pd 0:=by
    rw[C0D,<-HQ.out.ba];simp only[arc,List.append_nil,List.append_assoc]
   have AC: (arc (es++[en])).length<=(k+1)*16777216:=by
    rw[AR];simp only[List.length_append,List.length_replicate];rw[Nat.succ_mul];omega
   have Ag: (es++[en]).length=k+1:=by rw[zH,HQ.out.len];rfl
   have Af: (bs++List.replicate AA 0).length=bs.length+AA:=by rw[zH,z7]
   have BQ:k*16777216<=1048576*16777216:=Nat.mul_le_mul_right _ (by omega);by_cases h0:f.ds=[]
   ·have l0:f.ds.length=0:=by rw[h0];rfl
    rw[l0] at c21
    have HN:Hid (QSt w P tw (k+1) (es++[en]) (bs++List.replicate AA 0++en.out) AL en.pd AD AB w4):=A0
     ⟨Ag,Ah,by rw[AR,AX,h0,QH],hW.Bf,hW.T,hW.l,by have:=hW.F;rw[AI,l0] at this;exact this,BY,by have:=AP.out.size;omega,AJ.out,AC⟩
    clear hP AX hW Ap G4 Aq AV BM Aw Ah AR AC Ag Ak AI h0;go_wp2_with fail
    go_roundw
    case rel=>exact⟨k+1,by go_num,by omega,A0 ⟨_,_,_,_,_,_,HN.out⟩⟩
    case measure=>simp[intOf];omega
   ·obtain⟨g,o,rfl,hg,BJ⟩:=Aw.resolve_left h0
    have Bs:=List.length_pos_iff.2 h0;have AT:=BJ.carry (AJ.out.block g hg);have z1: ((f.ds.length:Int)==0)=false:=by rw[zG];omega
    have HW:=A0 hW;have HO:=A0 Ah;have BZ:=A0 AR;have Ba:=A0 AC;have Bh:=A0 Ag;have Bc:=A0 AX;have AE:=A0 (B4u w4 g o f.ds.length cc f.ds AT rfl (by omega));clear hP AX hW Ap G4 Aq AV BM Aw Ah AR AC Ag Ak h0 BJ AT;go_wp2_with fail
    refine AE.out.mono ?_;rintro e w5 ⟨g1,c1,rfl,Bq,Bj,AS,AW,AO⟩;have T5:TW tw w.heap.size AL en.pd AD (Lib.byteCells AB) .nilIface w5:=⟨(AO.block tw (A8 HW.out.T.1)).trans HW.out.T.1,HW.out.T.2⟩;have F5:FW AL w.heap.size en.ds.length w5:=(AO.block AL HW.out.hi).trans HW.out.F;have B5:=HW.out.Bf.carry (B':=w4.heap.size) (S:=[]) (Fr.of_below AO _ _) (zB _) (by simp) (by simp);have BP:g1≠w.heap.size:=by have:=AJ.out.size;have:=HW.out.hi;omega
    have AQ:=A0 (B4j w5 w.heap.size w.heap.size tw AL en.pd AD (Lib.byteCells AB) (bs++List.replicate AA 0++en.out) f.ds g1 0 f.ds.length c1 en.ds.length T5 B5 (zP AJ.out.size AO.size) F5 rfl (by omega) (by omega) (by omega) BP AS (by rw[zH,Af];omega));have Az:=A0 (AJ.out.trans (AO.mono AJ.out.size));clear T5 F5 B5 BP AS AW AO AE;go_wp2_with fail
    refine AQ.out.mono ?_;rintro e w6 ⟨rfl,T6,B6,F6,K6⟩;have BL:Below w.heap.size w5 w6:=K6.below_to (zB _) Az.out.size (by simp;have:=AP.out.size;omega)
    have HN:Hid (QSt w P tw (k+1) (es++[en]) (bs++List.replicate AA 0++en.out++f.ds) AL en.pd AD AB w6):=A0
     ⟨Bh.out,HO.out,by rw[BZ.out,Bc.out],B6,T6,HW.out.l,by have:=F6;rw[AI,Int.sub_self] at this;exact this,BY,by have:=AP.out.size;omega,Az.out.trans BL,Ba.out⟩
    clear T6 B6 F6 K6 BL AQ;go_wp2_with fail
    go_roundw
    case rel=>exact⟨k+1,by go_num,by omega,A0 ⟨_,_,_,_,_,_,HN.out⟩⟩
    case measure=>simp[intOf];omega
  ·obtain rfl:k=F.length:=by omega
   have BE:=HQ.out.K.cell (p:=⟨4,0,none⟩) h4;have BF:=BE.trans HC.out;have BQ:F.length*16777216<=1048576*16777216:=Nat.mul_le_mul_right _ (by omega);have AE:=A0 (B6y wr w.heap.size tw w.heap.size fw AA BU bs AH (Lib.byteCells AG) aC HQ.out.Bf HQ.out.K.size HQ.out.T HQ.out.F (by omega) BF h4 (by have:=Ao.out;omega));have AZ:w.heap.size+2<=tw/\tw<=w.heap.size+2:=by have:=Ao.out;omega
   clear BE BF;go_wp2_with fail
   refine AE.out.mono ?_;rintro e w2 ⟨rfl,BD,BH⟩;have AM:Below w.heap.size wr w2:=BH.below_to (zB _) HQ.out.K.size (by simp;omega);have Bg:=A0 (HQ.out.K.trans AM);clear BH AM AE;go_wp2_with fail
   refine(A7W w.heap.size w.heap.size _ w2 BD).mono ?_;rintro e w3 ⟨v,rfl,hv,n,rfl⟩;have HV:=A0 hv;clear hv BD;go_wp2_with fail
   refine(A6m _).mono ?_;rintro e w3 ⟨rfl,rfl⟩;go_wp2_with fail
   go_ret2
   refine⟨v,es,rfl,HQ.out.len,HQ.out.ok,Bi,?_,?_⟩
   ·have:=HV.out
    rw[HQ.out.ba] at this;exact this
   ·exact bdn Bg.out n
end Go.Proofs.YtkanmkcojlefbaaGreatDoor
