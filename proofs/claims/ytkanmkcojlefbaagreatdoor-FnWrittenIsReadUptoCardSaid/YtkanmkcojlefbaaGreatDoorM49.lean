/-
  Part of the proof; holds the texts L5w.
-/
import Derived.Test.YtkanmkcojlefbaaGreatDoorM48
set_option maxHeartbeats 4000000
set_option maxRecDepth 100000
set_option linter.unusedSimpArgs false
set_option linter.unusedVariables false
namespace Go.Proofs.YtkanmkcojlefbaaGreatDoor
open Go.RowKit
def B3m (w:World) (e:Ending) (w':World):Prop:=e= .returned (.bool true)/\Below w.heap.size w w'
theorem B6Z.imp {G0:Nat} {E:Nat->Addr} {f:FI} {P P':Ent->Prop} (h:B6Z G0 E f P) (hp:∀en,P en->P' en):B6Z G0 E f P':=by
 intro B tw b fw AE oh rv A5p AC bs w a1 a2 a3 a4 a5 a6 a7 a8 a9 b1 b2 b3 b4 b5;refine(h B tw b fw AE oh rv A5p AC bs w a1 a2 a3 a4 a5 a6 a7 a8 a9 b1 b2 b3 b4 b5).mono ?_;rintro e w' ⟨rfl,en,AD,AB,AA,h1,h2⟩;exact⟨rfl,en,AD,AB,AA,hp en h1,h2⟩
theorem B7H {w:World} {B:Nat} {T:TypeId} {s:Nat} {v:Value} {n:Nat} {xs:List Value} (h:w.ownsRow B T s v n xs):∃p c,v= .slice p n c:=by
 rcases h.2 with ⟨rfl,h2⟩|⟨g,cap,cur,rfl,-⟩
 ·exact⟨none,0,by rw[h2]⟩
 ·exact⟨_,_,rfl⟩
theorem B9Z {w:World} {B:Nat} {v:Value} {ds:List UInt8} (h:w.ownsRow B 5 1 v ds.length (Lib.byteCells ds)):A4W w v ds:=by
 rcases h.2 with ⟨rfl,h2⟩|⟨g,cap,cur,rfl,h1,h2,h3,h4,h5,h6⟩
 ·have:ds=[]:=List.eq_nil_of_length_eq_zero h2
  subst this;exact⟨none,0,rfl,zB _,by omega,.inl rfl⟩
 ·have hm:maxLen=9223372036854775807:=rfl
  refine⟨_,cap,rfl,h3,by omega,.inr ⟨g,0,rfl,A8 h2,At.of_heap h2 (λj u hj=> ?_)⟩⟩;rw[<-h6,List.getElem?_take] at hj;split at hj
  ·rw[Nat.zero_add,<-Array.getElem?_toList];exact hj
  ·cases hj
def WAt (B:Nat) (w:World) (cs:List Value) (j:Nat) (f:FI) (W:IH):Prop:=
 (∀ (i:Nat) (u:Value),(W.scells++[f.dv])[i]?=some u->cs[j*22+i]?=some u)/\N5 w W.recs f.L/\A7M W.recs
theorem C1f (G0:Nat) (E:Nat->Addr) (w:World) (As:Gl G0 E w) (v:Value) (F:List FI) (h:A9A w v F) (Ad:szs F<=13631488) (AT:F.length<=1048576):Calls Tryz.prog 5 #[v] w (B3m w):=by
 have AD:∀f∈F,f.sz<=13631488:=λf hf=>zP (B9P hf) Ad;have AV:∀f∈F,f.L.length*24<=13631488:=λf hf=>by have:=AD f hf;unfold FI.sz at this;have:=A6O f.L;omega
 have Ae:=A0 (B9b v F w h (λf hf=>by have:=AV f hf;omega));have HS:=A0 h;have Af:=A0 As;have Ag:=A0 AV;have Aw:=A0 AD;have Ax:=A0 Ad;clear h As AV AD Ad;go_enter Tryz.func5,Tryz.ntmps5
 go_wp2_with fail
 refine Ae.out.mono ?_;rintro e w1 ⟨b,rfl,AW,-⟩;have AQ:=A0 AW;have HW:=A0 (B9G v F w1 (HS.out.below AW) Ax.out AT);clear AW Ae;cases b with
 |false=>
  go_wp2_with fail
  go_ret
  exact⟨rfl,AQ.out⟩
 |true=>
  go_wp2_with fail
  refine HW.out.mono ?_;rintro e w2 ⟨vw,x,rfl,An,hx⟩;have AE:=A0 (AQ.out.trans (An.mono AQ.out.size));have HX:=A0 hx;clear An hx HW;by_cases AP:x=1
  ·subst AP
   obtain⟨Aa,cs,AL,AC⟩:=HX.out rfl;have Am:=HS.out.below AE.out;have AU:=Af.out.below AE.out
   have AB:∀ (j:Nat) f,F[j]?=some f->f.h.In/\f.L.length<=1048576/\(∀p∈f.L,p.1.length<=9223372036854775807/\p.2.length<=9223372036854775807)/\B6Z G0 E f (λen=>∃f W,F[j]?=some f/\B9y f W en/\WAt w1.heap.size w2 cs j f W):=by
    intro j f hj;have Ab:=List.mem_of_getElem? hj;have hl:=Ag.out f Ab;have hb:=Aw.out f Ab;unfold FI.sz at hb
    have AO:A8e w f:=by
     obtain⟨p,c,-,-,-,h4⟩:=HS.out;obtain⟨AJ,he⟩:=zM.1 hj;obtain⟨g,o,-,-,-,h5⟩:=h4 j AJ;rwa [he] at h5
    obtain⟨y,⟨W,rfl,hw,hr,hc,-⟩,hy⟩:=AC.get 22 (λa x hx=>by obtain⟨W,rfl,-⟩:=hx;rfl) j f hj;have AI:WAt w1.heap.size w2 cs j f W:=⟨hy,hr,hc⟩
    have BD:f.ds.length<=1048576:=by
     have h1:f.ds.length<=A6L F:=by
      obtain⟨AJ,he⟩:=zM.1 hj;have e1:=B6o F (j+1);rw[zU AJ,B6c,he] at e1;simp only[A6L] at e1;omega
     omega
    refine⟨?_,by omega,λp hp=>by have:=A2K hp;omega,?_⟩
    ·rcases hw with ⟨ht,AZ,-,-⟩|⟨ht,-,g,-⟩
     ·obtain⟨AH,T⟩:=C1M f.h W W.recs f.L AO.rng AZ
      exact T.inH
     ·exact⟨by rw[g.mn];decide,by rw[g.ms];decide,λe=>(by rw[g.hasA] at e;cases e),λe=>(by rw[g.hasC] at e;cases e)⟩
    ·rcases hw with ⟨ht,AZ,BA,BC⟩|⟨ht,hW,g,h0⟩
     ·obtain⟨AH,T⟩:=C1M f.h W W.recs f.L AO.rng AZ
      refine(C1L G0 E f W W.recs AH T ?_ BD).imp λen hg=>⟨f,W,hj,hg,AI⟩;cases hd:A4u W.typ with
      |true=>
       have h1:=BA hd;have h2:D1 W.typ=false:=by unfold A4u at hd;unfold D1;simp at hd⊢;omega
       rw[h2,h1];rfl
      |false=>
       have h1:=BC hd;have h2:D1 W.typ=true:=by unfold A4u at hd;unfold D1;simp at hd⊢;omega
       rw[h2,h1];rfl
     ·exact(C1K G0 E f W ht hW g h0).imp λen hg=>⟨f,W,hj,hg,AI⟩
   have Ak:=A0 (C0R G0 E (λj en=>∃f W,F[j]?=some f/\B9y f W en/\WAt w1.heap.size w2 cs j f W) v F w2 Am AU (E 4) (AU.err 4 (by decide)) AT AB);have Ah:=A0 AL;clear Aa AL AC Am AU AB HX;go_wp2_with fail
   refine Ak.out.mono ?_;rintro e w3 ⟨vb,es,rfl,BE,hP,BP,Ac,AX⟩;obtain⟨bs,AM⟩:∃bs,bs=arc es++List.replicate 1024 0:=⟨_,rfl⟩;rw[<-AM] at Ac;have Az:bs.length=(arc es).length+1024:=by rw[AM,zH,z7]
   obtain⟨g,c,rfl,-,-,BH,AI⟩:=B7t Ac (by omega);have AR:=A0 (AE.out.trans (AX.mono AE.out.size));have Ai:=A0 hP;have BQ:F.length*16777216<=1048576*16777216:=Nat.mul_le_mul_right _ AT;have Al:=Af.out.below AR.out
   have Aj:=A0 (B9a w3 g c bs (E 0) es (λe he=>by
    obtain⟨j,hj,rfl⟩:=List.mem_iff_getElem.1 he;obtain⟨f,W,-,hg,-⟩:=Ai.out j _ (zF hj);exact hg.1) (by omega) AM (by omega) AI (Al.err 0 (by decide)))
   have AG:=A0 AX;clear hP Ac AI AX Al Ak AM Az;go_wp2_with fail
   refine Aj.out.mono ?_;rintro e w4 ⟨vr,rfl,⟨B4,BO,ho4,Aq⟩,AY⟩;have AS:=A0 (AR.out.trans (AY.mono AR.out.size));have AA:Below w2.heap.size w2 w4:=AG.out.trans (AY.mono AG.out.size);obtain⟨p1,c1,rfl⟩:=B7H ho4;obtain⟨p2,c2,rfl⟩:=B7H Ah.out;rw[BE] at ho4⊢
   have Au:=A0 (C0P p1 p2 F.length c1 c2 w4 (by omega) (λj hj=>by
    obtain⟨en,Ap⟩:∃en,es[j]?=some en:=⟨_,zF (by omega)⟩;obtain⟨f,W,Ar,⟨-,Aa,BF⟩,BJ,BL,BM⟩:=Ai.out j en Ap;obtain⟨y,⟨mb,rv,L2,dv,rfl,q1,-,q3,q4⟩,hy⟩:=Aq.get 23 (λa x hx=>by obtain⟨mb,rv,L2,dv,rfl,-⟩:=hx;rfl) j en Ap;obtain⟨g1,k1,e1,-,-,l1,a1⟩:=B7t ho4 (by omega);obtain⟨g2,k2,e2,-,-,l2,a2⟩:=B7t Ah.out (by omega);injection e1 with e1 _ _;injection e2 with e2 _ _
    have Ay:=a2.carry (AA.block g2 l2)
    have AO:A8e w f:=by
     obtain⟨p,c,-,-,-,h4⟩:=HS.out;obtain⟨AJ,he⟩:=zM.1 Ar;obtain⟨g,o,-,-,-,h5⟩:=h4 j AJ;rwa [he] at h5
    have Ab:=Ag.out f (List.mem_of_getElem? Ar);obtain⟨BI,hI⟩:=BF mb rv L2 q3;rw[Aa] at q4;refine⟨g1,0,g2,0,{A0e (en.Hf mb) with recs:=rv},L2,dv,W,f.L,f.dv,f.ds,e1,e2,l1,zL l2 AA.size,λi u hi=> ?_,λi u hi=> ?_,q1,BI,BL.below AA,by omega,BM,B9Z q4,AO.data.below AS.out,hI⟩
    ·have:=a1 _ _ (hy i u hi)
     rw[Nat.zero_add] at this⊢;exact this
    ·have:=Ay _ _ (BJ i u hi)
     rw[Nat.zero_add] at this⊢;exact this))
   clear AY AA ho4 Aq Aj;go_wp2_with fail
   refine Au.out.mono ?_;rintro e w5 ⟨rfl,Ao⟩;have Av:=A0 (AS.out.trans (Ao.mono AS.out.size));clear Ao;go_wp2_with fail
   go_ret
   exact⟨rfl,Av.out⟩
  ·have v1: (x==1)=false:=by simpa using AP
   have v2: (x !=1)=true:=by simpa using AP
   clear AP HX;go_wp2_with fail
   go_ret
   exact⟨rfl,AE.out⟩
end Go.Proofs.YtkanmkcojlefbaaGreatDoor
