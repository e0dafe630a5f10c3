/-
  Part of the proof; holds the texts Close, WriteNil, HeadW, Ref5, Ref6, Rec1, Rec2.
-/
import Derived.Test.YtkanmkcojlefbaaGreatDoorM36
import Derived.Test.YtkanmkcojlefbaaGreatDoorM30
set_option maxHeartbeats 4000000
set_option maxRecDepth 100000
set_option linter.unusedSimpArgs false
set_option linter.unusedVariables false
namespace Go.Proofs.YtkanmkcojlefbaaGreatDoor
open Go.RowKit
theorem B0U (B b:Nat) (bs:List UInt8) (g n:Nat) (w:World) (h:W3 B b bs w) (AB:B<=w.heap.size) (hg:w.heap[g]?=some (.cells Tryz.zeroCells132 132)) (hn:n<=512) (AA:bs.length+n<=140737488355328):
  Calls Tryz.prog 284 #[.pointer (some ⟨b,0,none⟩),.slice (some ⟨g,0,none⟩) n 512] w λe w'=>
   e= .returned (.tuple #[.int .i64 n,.nilIface])/\W3 B b (bs++List.replicate n 0) w'/\Fr B [b] w w':=
 A2u B b bs (List.replicate n 0) g 0 n 512 w h AB (by simp) (h.ne hg (by decide)) (At.of_heap hg (λj v hj=>by rw[Nat.zero_add];exact A4m j v n hn hj)) AA
def B7r (B tw b fw:Nat) (bs:List UInt8) (AB AA:List Value) (w:World) (e i:Value) (wr:World):Prop:=
 ∃k:Nat,k<=2/\e= .nilIface/\i= .int .i64 k/\W3 B b (bs++List.replicate (512*k) 0) wr/\TW tw b fw 0 AB AA .nilIface wr/\Fr B [b,tw] w wr
theorem B6y (w:World) (B tw b fw AB:Nat) (Ac:AB<512) (bs:List UInt8) (AH AE:List Value) (aC:Addr)
  (hB:W3 B b bs w) (AJ:B<=w.heap.size) (hW:TW tw b fw AB AH AE .nilIface w) (hf:FW fw b 0 w) (AZ:bs.length+AB+1024<=140737488355328)
  (hC:w.cell? ⟨4,0,none⟩=some (.iface 245 (.pointer (some aC)))) (h4:4<B) (Ab:4≠tw)
  :Calls Tryz.prog 41 #[.pointer (some ⟨tw,0,none⟩)] w λe w'=>e= .returned (.nilIface)/\W3 B b (bs++List.replicate AB 0++List.replicate 1024 0) w'/\Fr B [b,tw] w w':=by
 obtain⟨AO,hh,hk⟩:=id hW;obtain⟨c0,c1,bO,-,-⟩:=V7 hh hk AO;have hF:=A0 hW;have hq:=run_eql_iface_nil_left (P:=Tryz.prog) (ti:=72) (ms:=#[("Error",214)]);have Ai:=λw'=>hq w' 245 (.pointer (some aC)) Tryz.underlying72;clear hW AO c0 c1 hq;go_enter Tryz.func41,Tryz.ntmps41
 go_wp2_with fail
 go_quiet (fail)
 go_wp2_with fail
 refine(B2J (w.drewN nq) B tw b fw AB Ac bs AH AE (hB.drewN nq) AJ hF.out hf (by omega)).mono ?_;rintro e w1 ⟨rfl,AT,AP,AL⟩;have AV:=(Fr.refl B [b,tw] w).drewN nq|>.trans AL;have AR:=A0 AP;clear hF AL AP;go_wp2_with fail
 go_loopw [3,4] (λe i wr=>B7r B tw b fw (bs++List.replicate AB 0) AH AE w e i wr) (λ_ i _=>2- (intOf i).toNat)
 case atStart=>exact⟨0,by omega,rfl,rfl,by simpa using AT,AR.out,AV⟩
 case round=>
  obtain⟨k,Ag,rfl,rfl,AG,AW,AD⟩:=hrel;obtain⟨AA,AX,AY⟩:=id AW;obtain⟨c0,c1,AC,z1,AI⟩:=V7 AX AY AA;have Ae:tw∉[b]:=by simpa using AG.ne AA (by decide)
  have Ad:B<=wr.heap.size:=zP AJ AD.size;have m2:=A4Y;by_cases Ah:k<2
  ·have Aa: (k:Int)<2:=by omega
   clear z1 AI c1 AC bO hC;have AS:Hid ((wr.alloc (.cells Tryz.zeroCells132 132)).drew.heap[tw]?=_):=(zO wr (.cells Tryz.zeroCells132 132) tw (A8 AA)).trans AA;have HC:=A0 (B0U B b (bs++List.replicate AB 0++List.replicate (512*k) 0) wr.heap.size 512 (wr.alloc (.cells Tryz.zeroCells132 132)).drew (AG.alloc _).drew (zP Ad (QA (by exact(Array.size_push (xs:=wr.heap) (v:=_))▸Nat.lt_succ_self _))) (zI wr _) (by omega) (by simp;omega));go_wp2_with fail
   go_region_held3 (λw'=>w'.cell? ⟨tw,0,none⟩=some (.iface 75 (.pointer (some ⟨b,0,none⟩)))) (first|go_keep|assumption)
    (first|(go_at_call 284;refine HC.out.mono ?_;rintro e w2 ⟨rfl,AU,AM⟩;have AQ:=AM.cells AS.out Ae (.inr (by decide));obtain⟨d0,-,-,-,-⟩:=V7 hh hk AQ))
   go_wp2_with fail
   go_roundw
   case rel=>
    refine⟨k+1,by omega,rfl,by go_num,?_,⟨AQ,hh,hk⟩,?_⟩
    ·rw[show 512*(k+1)=512*k+512 by omega,<-List.replicate_append_replicate,<-QG]
     exact AU
    ·exact AD.trans ((((Fr.refl B [b,tw] wr).alloc _).drew).trans (AM.wide (zB _) (by simp)))
   case measure=>simp[intOf];omega
  ·obtain rfl:k=2:=by omega
   have Af:=AD.cell hC (by simp;exact⟨by have:=hB.base;simp at*;omega,Ab⟩) h4;clear hC c0 c1;go_wp2_with fail
   go_ret
   refine⟨rfl,AG.setCell (p:=⟨tw,535,none⟩) AA (by decide) (by decide) _,AD.setCell (p:=⟨tw,535,none⟩) (.inl (by simp)) _⟩
theorem A6m (w:World):Calls Tryz.prog 33 #[.nilIface] w λe w'=>e= .returned (.int .i64 0)/\w=w':=by
 go_enter Tryz.func33,Tryz.ntmps33
 go_wp2
 go_ret
 exact⟨rfl,rfl⟩
def B7w (w:World) (b:Nat) (e:Ending) (w':World):Prop:=
 e= .returned (.pointer (some ⟨w.heap.size+1,0,none⟩))/\FW w.heap.size b 0 w'/\TW (w.heap.size+1) b w.heap.size 0 A5p A0d .nilIface w'/\Fr w.heap.size [] w w'/\∀B b bs,W3 B b bs w->W3 B b bs w'
theorem A6G (w:World) (b:Nat):Calls Tryz.prog 29 #[.iface 75 (.pointer (some ⟨b,0,none⟩))] w (B7w w b):=by
 go_enter Tryz.func29,Tryz.ntmps29
 go_wp2
 go_ret
 rw[A9K];refine⟨rfl, ?_,⟨?_,A7k,A3y⟩,((Fr.refl _ _ w).alloc _).alloc _,λ_ _ _ h=>(h.alloc _).alloc _⟩
 ·exact heap_alloc2_old w _ _
 ·exact heap_alloc2_new w _ _
theorem B3z {w:World} {g:Nat} {cs:Array Value} {T:TypeId} (h:w.heap[g]?=some (.cells cs T (0,0))) (i:Nat) (v:Value) (hv:cs[i]?=some v):w.cell? ⟨g,i,none⟩=some v:=by
 rw[zA h];exact hv
noncomputable def B8v (w:World) (cs:Array Value):World:=(w.alloc (.cells cs 26)).alloc (.cells #[.slice none 0 0,.int .i64 0,.int .i8 0] 70)
theorem N5.below {w w':World} {v:Value} {L:List (List UInt8×List UInt8)} (h:N5 w v L) (f:Below w.heap.size w w'):N5 w' v L:=by
 obtain⟨p,c,hv,hc⟩:=h;refine⟨p,c,hv,λj hj=> ?_⟩;obtain⟨rg,ro,h1,h2,h3,h4⟩:=hc j hj;exact⟨rg,ro,h1,zL h2 f.size,(f.cell (p:=⟨rg,ro+j*2,none⟩) h2).trans h3,(f.cell (p:=⟨rg,ro+j*2+1,none⟩) h2).trans h4⟩
def A9r (p:List UInt8×List UInt8):Prop:=p.1.length<=2147483647/\p.2.length<=2147483647
theorem B1Q (k v:List UInt8) (w:World):Calls Tryz.prog 51 #[.agg #[str k,str v]] w (A5y (A9r (k,v)) w):=by
 have a1:=zI w (.cells #[str k,str v] 59);have c0: (w.alloc (.cells #[str k,str v] 59)).cell? ⟨w.heap.size,0,none⟩=some (str k):=by rw[zA a1];rfl
 have c1: (w.alloc (.cells #[str k,str v] 59)).cell? ⟨w.heap.size,1,none⟩=some (str v):=by rw[zA a1];rfl
 have hb:=A0 (λo=>(zD w.heap.size w).alloc (zB _) o);clear a1;by_cases h1: (2147483647:Int)<k.length
 ·go_enter Tryz.func51,Tryz.ntmps51
  go_wp2_with fail
  go_ret
  exact⟨false,rfl,hb.out _,λh=>by cases h⟩
 ·by_cases h2: (2147483647:Int)<v.length
  ·go_enter Tryz.func51,Tryz.ntmps51
   go_wp2_with fail
   go_ret
   exact⟨false,rfl,hb.out _,λh=>by cases h⟩
  ·have HF:Hid (A9r (k,v)):=A0 ⟨by show k.length<=_;omega,by show v.length<=_;omega⟩
   go_enter Tryz.func51,Tryz.ntmps51
   go_wp2_with fail
   go_ret
   exact⟨true,rfl,hb.out _,λh=>HF.out⟩
def A9q (L:List (List UInt8×List UInt8)):Prop:=L.length<=2147483647/\∀p∈L,A9r p
theorem B1P (rv:Value) (L:List (List UInt8×List UInt8)) (w:World) (hL:N5 w rv L) (AJ:L.length<=9223372036854775807):Calls Tryz.prog 24 #[rv] w (A5y (A9q L) w):=by
 obtain⟨p,c,rfl,AC⟩:=hL;have AH:=A0 AC;clear AC;by_cases h1: (2147483647:Int)<L.length
 ·go_enter Tryz.func24,Tryz.ntmps24
  go_wp2_with fail
  go_ret
  exact⟨false,rfl,zD _ _,λh=>by cases h⟩
 ·go_enter Tryz.func24,Tryz.ntmps24
  go_wp2_with fail
  go_loopw [10] (λs10 wr=>∃k:Nat,s10= .int .i64 k/\k<=L.length/\Hid (∀ (j:Nat) q,j<k->L[j]?=some q->A9r q)/\Hid (Below w.heap.size w wr)) (λs10 _=>L.length- (intOf s10).toNat)
  case atStart=>exact⟨0,rfl,zW _,A0 (λj q h=>by omega),A0 (zD _ _)⟩
  case round=>
   obtain⟨k,rfl,hk,hF,hB⟩:=hrel;by_cases AD:k<L.length
   ·obtain⟨rg,ro,rfl,AG,k1,k2⟩:=AH.out k AD
    have ck:wr.cell? ⟨rg,ro+k*2,none⟩=some (str L[k].1):=(hB.out.cell (p:=⟨rg,ro+k*2,none⟩) AG).trans k1;have cv:wr.cell? ⟨rg,ro+k*2+1,none⟩=some (str L[k].2):=(hB.out.cell (p:=⟨rg,ro+k*2+1,none⟩) AG).trans k2;have HK:=A0 (zF AD);generalize L[k]=q at*;obtain⟨kk,vv⟩:=q;clear k1 k2;go_wp2_with fail
    refine(B1Q kk vv _).mono ?_;rintro e w2 ⟨b,rfl,AB,AE⟩;have AI:=A0 AE;have AA:Hid (Below w.heap.size w w2):=A0 ((hB.out.alloc hB.out.size _).trans (AB.mono (by have:=hB.out.size;simp;omega)));clear AB AE;cases b with
    |false=>
     go_wp2_with fail
     go_ret
     exact⟨false,rfl,AA.out,λh=>by cases h⟩
    |true=>
     go_wp2_with fail
     go_roundw
     case rel=>exact⟨k+1,by go_num,by omega,A0 (λj q hj hq=>if h:j=k then by rw[h,HK.out] at hq;cases hq;exact AI.out (by trivial) else hF.out j q (by omega) hq),AA⟩
     case measure=>simp[intOf];omega
   ·have HF:Hid (A9q L):=A0 ⟨by omega,λq hq=>by
     obtain⟨j,hj,e⟩:=List.getElem_of_mem hq;exact hF.out j q (by omega) (by rw[zF hj,e])⟩
    go_wp2_with fail
    go_ret
    exact⟨true,rfl,hB.out,λh=>HF.out⟩
def B4n (h:IH) (L:List (List UInt8×List UInt8)):Prop:=h.name.length<=2147483647/\h.link.length<=2147483647/\h.user.length<=2147483647/\h.group.length<=2147483647/\A9q L
theorem B1O (h:IH) (L:List (List UInt8×List UInt8)) (w:World) (hL:N5 w h.recs L) (AG:L.length<=9223372036854775807):Calls Tryz.prog 7 #[.agg h.cells.toArray] w (A5y (B4n h L) w):=by
 have a1:IHC w.heap.size h (w.alloc (.cells h.cells.toArray 26)):=zI w _;have AA:=(zD w.heap.size w).alloc (zB _) (.cells h.cells.toArray 26)
 have cc:∀ (k:Nat) (v:Value),h.cells[k]?=some v->(w.alloc (.cells h.cells.toArray 26)).cell? ⟨w.heap.size,k,none⟩=some v:=λk v hv=>by
  rw[zA a1,List.getElem?_toArray];exact hv
 have n1:=cc 1 (str h.name) rfl;have n2:=cc 2 (str h.link) rfl;have n3:=cc 7 (str h.user) rfl;have n4:=cc 8 (str h.group) rfl;have n5:=cc 19 h.recs rfl;have hs:w.heap.size< (w.alloc (.cells h.cells.toArray 26)).heap.size:=A8 a1;have h4:=A0 (B1P h.recs L (w.alloc (.cells h.cells.toArray 26)) (hL.below AA) AG);have HB:=A0 AA;have HS:=A0 hs;clear a1 cc hL AA hs;by_cases f1: (2147483647:Int)<h.name.length
 ·go_enter Tryz.func7,Tryz.ntmps7
  go_wp2_with fail
  go_ret
  exact⟨false,rfl,HB.out,λh=>by cases h⟩
 ·by_cases f2: (2147483647:Int)<h.link.length
  ·go_enter Tryz.func7,Tryz.ntmps7
   go_wp2_with fail
   go_ret
   exact⟨false,rfl,HB.out,λh=>by cases h⟩
  ·by_cases f3: (2147483647:Int)<h.user.length
   ·go_enter Tryz.func7,Tryz.ntmps7
    go_wp2_with fail
    go_ret
    exact⟨false,rfl,HB.out,λh=>by cases h⟩
   ·by_cases f4: (2147483647:Int)<h.group.length
    ·go_enter Tryz.func7,Tryz.ntmps7
     go_wp2_with fail
     go_ret
     exact⟨false,rfl,HB.out,λh=>by cases h⟩
    ·have HF:Hid (A9q L->B4n h L):=A0 λk=>⟨by omega,by omega,by omega,by omega,k⟩
     go_enter Tryz.func7,Tryz.ntmps7
     go_wp2_with fail
     refine h4.out.mono ?_;rintro e w2 ⟨b,rfl,AC,AD⟩;have AE:=A0 AD;have AB:Hid (Below w.heap.size w w2):=A0 (HB.out.trans (AC.mono (QA HS.out)));clear AC AD;cases b with
     |false=>
      go_wp2_with fail
      go_ret
      exact⟨false,rfl,AB.out,λh=>by cases h⟩
     |true=>
      go_wp2_with fail
      go_ret
      exact⟨true,rfl,AB.out,λh=>HF.out (AE.out (by trivial))⟩
theorem B7i:Tryz.prog.underlying 29=some (.slice 108):=Tryz.underlying29
theorem B4B: (Tryz.prog.info? 108).map (λi=>(i.zero,i.size,i.bytes))=some (some (.agg #[str [],str []]),2,32):=by kernel_rfl
theorem A6K {T:TypeId} {w:World} {B:Nat} {rv:Value} {L:List (List UInt8×List UInt8)} (h:w.ownsRow B T 2 rv L.length (E8 L)):N5 w rv L:=by
 rcases h.2 with ⟨rfl,h0⟩|⟨g,cap,cur,rfl,h2,h3,h4,h5,h6,h7⟩
 ·have:L=[]:=List.eq_nil_of_length_eq_zero h0
  subst this;exact⟨none,0,rfl,λj hj=>absurd hj (Nat.not_lt_zero _)⟩
 ·refine⟨_,cap,rfl,λj hj=>⟨g,0,rfl,A8 h3,?_⟩⟩
  obtain⟨e1,e2⟩:=A1L L j hj;rw[<-h7] at e1 e2;rw[List.getElem?_take] at e1 e2;constructor
  ·rw[Nat.zero_add,zA h3]
   split at e1
   ·simpa using e1
   ·cases e1
  ·rw[Nat.zero_add,zA h3]
   split at e2
   ·simpa using e2
   ·cases e2
theorem A8l {T ts:TypeId} (hu:Tryz.prog.underlying ts=some (.slice T)) (hi: (Tryz.prog.info? T).map (λi=>(i.zero,i.size,i.bytes))=some (some (.agg #[str [],str []]),2,32)) {w:World} {B n:Nat} {v:Value} {xs:List Value} (AB:w.ownsRow B T 2 v n xs) (g:Nat) (a b:List UInt8) (hg:At w g 0 [str a,str b]) (hn:n<=4294967296) (hB:B<=w.heap.size):
  ∃v2 w2,(Builtin.append_ #[ts,ts] ts #[v,.slice (some ⟨g,0,none⟩) 1 1]).run Tryz.prog w= .ok v2 w2/\w2.ownsRow B T 2 v2 (n+1) (xs++[str a,str b])/\(∀w0,Below B w0 w->Below B w0 w2)/\w.heap.size<=w2.heap.size/\(∀ (k:Nat) (o:Obj),w.heap[k]?=some o->(∀c fz,o≠ .cells c T fz)->w2.heap[k]?=some o):=by
 obtain⟨i5,AD,AI,AJ,AL⟩:=info_parts hi;have AG:∀j u,([str a,str b]:List Value)[j]?=some u->w.cell? ((⟨g,0,none⟩:Addr).add j)=some u:=hg.src;obtain⟨v2,w2,hr,AH,AA,-⟩:=run_append_own (P:=Tryz.prog) w B ts ts T i5 (.agg #[str [],str []]) 2 32 hu AD AI AJ AL rfl (by omega) v n xs AB ⟨g,0,none⟩ 1 1 [str a,str b] rfl AG (by intro u hu;simp at hu;rcases hu with rfl|rfl<;>rfl) (by simp only[maxLen];omega) (by omega) hB
 have AE:∀ (k:Nat) (o:Obj),w.heap[k]?=some o->(∀c fz,o≠ .cells c T fz)->v.ownBlock≠some k:=by
  intro k o hk ho e;rcases AB.2 with ⟨rfl,-⟩|⟨g,cap,cur,rfl,h2,h3,h4⟩
  ·cases e
  ·cases e
   rw[hk] at h3;injection h3 with h3
   exact ho _ _ h3
 refine⟨v2,w2,hr,AH,λw0 hb=>⟨AA.os.trans hb.os,AA.tape.trans hb.tape,AA.output.trans hb.output,zP hb.size AA.size,λk hk=> ?_⟩,AA.size,λk o hk ho=>(AA.block k (A8 hk) (λe=>AE k o hk ho e.symm)).trans hk⟩
 have AC:v.ownBlock≠some k:=by
  intro e;rcases AB.2 with ⟨rfl,-⟩|⟨g,cap,cur,rfl,h2,h3,h4⟩
  ·cases e
  ·cases e;have h9:g<B:=hk;omega
 exact(AA.block k (zL hk hB) (λe=>AC e.symm)).trans (hb.block k hk)
theorem A5F {w w':World} {B:Nat} {T:TypeId} {s:Nat} {v:Value} {n:Nat} {xs:List Value} (h:w.ownsRow B T s v n xs) (f:Below w.heap.size w w'):w'.ownsRow B T s v n xs:=A6J h f
def A7M (v:Value):Prop:=∀p n c,v= .slice p n c->n<=c/\c<=9223372036854775807
theorem B4K {T:TypeId} {w:World} {B m:Nat} {rv:Value} {xs:List Value} (h:w.ownsRow B T 2 rv m xs):A7M rv:=by
 intro p n c e;rcases h.2 with ⟨h0,-⟩|⟨g,cap,cur,h1,-,-,h4,h5,-⟩
 ·rw[h0] at e;cases e;exact⟨zB _,by decide⟩
 ·rw[h1] at e;cases e;exact⟨h4,h5⟩
def B8z (w:World) (B:Nat) (T:TypeId) (rv:Value):Prop:=∀p n c,rv= .slice (some p) n c->B<=p.block/\∃cur fz,w.heap[p.block]?=some (.cells cur T fz)
def A9t (L:List (List UInt8×List UInt8)) (w:World) (e:Ending) (w':World):Prop:=∃rv,e= .returned rv/\N5 w' rv L/\(rv.oneCell'=true/\A7M rv)/\B8z w' w.heap.size 108 rv/\Below w.heap.size w w'
theorem B5o {T:TypeId} {w:World} {B m:Nat} {rv:Value} {xs:List Value} (h:w.ownsRow B T 2 rv m xs):B8z w B T rv:=by
 intro p n c e;rcases h.2 with ⟨h0,-⟩|⟨g,cap,cur,h1,h2,h3,-⟩
 ·rw[h0] at e;cases e
 ·rw[h1] at e;cases e;exact⟨h2,cur,_,h3⟩
theorem A8J {w:World} {v:Value} {L:List (List UInt8×List UInt8)} (h:N5 w v L):v.oneCell'=true:=by
 obtain⟨p,c,rfl,-⟩:=h;rfl
theorem A8S (v:Value) (L:List (List UInt8×List UInt8)) (w:World) (hL:N5 w v L) (AR:L.length<=4294967296):Calls Tryz.prog 28 #[v] w (A9t L w):=by
 obtain⟨p,c,rfl,AH⟩:=hL;have AO:=A0 AH;clear AH;go_enter Tryz.func28,Tryz.ntmps28
 go_wp2_with fail
 go_loopw [8,3] (λs8 s3 wr=>∃k:Nat,s8= .int .i64 k/\k<=L.length/\Hid (wr.ownsRow w.heap.size 108 2 s3 k (E8 (L.take k)))/\Hid (Below w.heap.size w wr)) (λs8 _ _=>L.length- (intOf s8).toNat)
 case atStart=>exact⟨0,rfl,zW _,A0 (World.ownsRow_nil _ _ _ _),A0 (zD _ _)⟩
 case round=>
  obtain⟨k,rfl,hk,hO,hB⟩:=hrel;by_cases AI:k<L.length
  ·obtain⟨rg,ro,rfl,AL,k1,k2⟩:=AO.out k AI
   have ck:wr.cell? ⟨rg,ro+k*2,none⟩=some (str L[k].1):=(hB.out.cell (p:=⟨rg,ro+k*2,none⟩) AL).trans k1;have cv:wr.cell? ⟨rg,ro+k*2+1,none⟩=some (str L[k].2):=(hB.out.cell (p:=⟨rg,ro+k*2+1,none⟩) AL).trans k2
   have HT:Hid (E8 (L.take (k+1))=E8 (L.take k)++[str L[k].1,str L[k].2]):=A0 (by
    rw[zU AI,Y7];rfl)
   clear k1 k2;generalize L[k].1=kk at*;generalize L[k].2=vv at*;go_upto_region 5 with fail
   have AA:Below wr.heap.size wr (wr.alloc (.cells #[str kk,str vv] 59)):=(zD _ wr).alloc (zB _) _;obtain⟨wA,AB⟩:∃wA,wA=wr.alloc (.cells #[str kk,str vv] 59):=⟨_,rfl⟩;have d0:wA.cell? ⟨wr.heap.size,0,none⟩=some (str kk):=by rw[AB,zA (zI wr _)];rfl
   have d1:wA.cell? ⟨wr.heap.size,1,none⟩=some (str vv):=by rw[AB,zA (zI wr _)];rfl
   rw[<-AB] at AA⊢;have AE:Below wA.heap.size wA (wA.alloc (.cells #[str kk,str vv] 108)):=(zD _ wA).alloc (zB _) _;have AC:=hB.out.trans (AA.mono hB.out.size);have AD:=AC.trans (AE.mono AC.size);obtain⟨v2,w2,hr,AJ,AG,AQ,-⟩:=A8l B7i B4B (A5F (A5F hO.out AA) AE) wA.heap.size kk vv (O5 wA [str kk,str vv] 108) (by omega) AD.size;have HR:=A0 hr;have AP:Hid (w2.ownsRow w.heap.size 108 2 v2 (k+1) (E8 (L.take (k+1)))):=A0 (by rw[HT.out];exact AJ);have AM:=A0 (AG w AD);clear hr AJ AG AA AE AC AD AB ck cv AQ;go_wp2_with (first|(at_builtin;refine X2 rfl (.tmp 12) (.tmp 18) 29 rfl _ _ rfl rfl _ w2 HR.out ?_)|fail)
   go_roundw
   case rel=>exact⟨k+1,by go_num,by omega,AP,AM⟩
   case measure=>simp[intOf];omega
  ·obtain rfl:k=L.length:=by omega
   rw[List.take_length] at hO;go_wp2_with fail
   go_ret
   exact⟨_,rfl,A6K hO.out,⟨A8J (A6K hO.out),B4K hO.out⟩,B5o hO.out,hB.out⟩
def gsB:List UInt8:=[71,78,85,46,115,112,97,114,115,101,46]
def B1M:List UInt8:=[83,67,72,73,76,89,46]
theorem A9a (l:List UInt8) (w:World) (hl:l.length<4611686018427387904):Calls Tryz.prog 85 #[str l] w (C4 w (.bool (l.take 11==gsB))):=by
 by_cases AA:11<=l.length
 ·have hx: (11:Int)<=l.length:=by omega
  have hs: (⟨l.toArray⟩:ByteArray).extract 0 11=⟨(l.take 11).toArray⟩:=by rw[L3];rfl
  go_enter Tryz.func85,Tryz.ntmps85
  go_wp2_with fail
  go_ret
  exact⟨rfl,rfl⟩
 ·have hx: (l.length:Int)<11:=by omega
  have hb: (l.take 11==gsB)=false:=by
   rw[zG];intro e;have:=congrArg List.length e;rw[zR] at this;have h2:gsB.length=11:=rfl;omega
  rw[hb];go_enter Tryz.func85,Tryz.ntmps85
  go_wp2_with fail
  go_ret
  exact⟨rfl,rfl⟩
def A8f (l:List UInt8) (c:UInt8) (w:World) (e:Ending) (w':World):Prop:=∃a b ok,e= .returned (.tuple #[str a,str b,.bool ok])/\Below w.heap.size w w'/\a.length<=l.length/\b.length<=l.length/\(ok=true->l=a++c::b)
theorem B4c (l:List UInt8) (c:UInt8) (w:World) (hl:l.length<4611686018427387904):Calls Tryz.prog 86 #[str l,.int .u8 c.toNat] w (A8f l c w):=by
 go_enter Tryz.func86,Tryz.ntmps86
 go_wp2_with fail
 go_loop [10] (λi=>∃k:Nat,k<=l.length/\i= .int .i64 k) (λi=>l.length- (intOf i).toNat)
 case atStart=>exact⟨0,zW _,rfl⟩
 case round=>
  obtain⟨k,hk,rfl⟩:=hrel;by_cases AB:k<l.length
  ·have AA: (k:Int)<l.length:=by omega
   have hx:=A0K l k AB;by_cases hc:l[k]=c
   ·have e1: (⟨l.toArray⟩:ByteArray).extract 0 k=⟨(l.take k).toArray⟩:=by rw[L3];simp
    have e2: (⟨l.toArray⟩:ByteArray).extract (k+1) l.length=⟨(l.drop (k+1)).toArray⟩:=by rw[L3,List.take_of_length_le (by rw[List.length_drop];omega)]
    have HO:Hid (∀w',Below w.heap.size w w'->A8f l c w (.returned (.tuple #[str (l.take k),str (l.drop (k+1)),.bool true])) w'):=A0 λw' hb=>⟨_,_,_,rfl,hb,by rw[zR];omega,by rw[List.length_drop];omega,λ_=>by
     rw[<-hc,<-List.drop_eq_getElem_cons AB,List.take_append_drop]⟩
    rw[hc] at hx;clear hc;go_wp2_with fail
    go_quiet (fail)
    go_wp2_with fail
    go_ret3
    have hd:Below w.heap.size w (w.drewN nq):=⟨rfl,rfl,rfl,zB _,λ_ _=>rfl⟩;exact HO.out _ hd
   ·have AC: (l[k].toNat==c.toNat)=false:=by rw[zG];exact λe=>hc (UInt8.toNat_inj.1 e)
    have AD: ((l[k].toNat:Int)==(c.toNat:Int))=false:=by rw[zG];exact λe=>hc (UInt8.toNat_inj.1 (by omega))
    clear hc;generalize l[k]=x at*;go_wp2_with fail
    go_round
    case rel=>exact⟨k+1,by omega,by go_num⟩
    case measure=>simp[intOf];omega
  ·have AA:¬(k:Int)<l.length:=by omega
   have HO:Hid (A8f l c w (.returned (.tuple #[str l,str [],.bool false])) w):=A0 ⟨_,_,_,rfl,zD _ w,zB _,zW _,λh=>by cases h⟩;go_wp2_with fail
   go_ret3
   exact HO.out
def A2r (k v:List UInt8):Prop:=(0:UInt8)∉k/\(0:UInt8)∉v/\v≠ []/\(61:UInt8)∉k/\k.take 11≠gsB/\k.take 7≠B1M/\∃c t,k=c::t/\65<=c.toNat/\c.toNat<=90
def RFS (k v:List UInt8) (g:Nat) (w0 w:World):Prop:=w.heap[g]?=some (.cells #[str k,str v] 108 (0,0))/\Below w0.heap.size w0 w/\w0.heap.size<=g
theorem RFS.key {k v:List UInt8} {g:Nat} {w0 w:World} (h:RFS k v g w0 w):w.cell? ⟨g,0,none⟩=some (str k):=by rw[zA h.1 0];rfl
theorem RFS.val {k v:List UInt8} {g:Nat} {w0 w:World} (h:RFS k v g w0 w):w.cell? ⟨g,1,none⟩=some (str v):=by rw[zA h.1 1];rfl
theorem RFS.step {k v:List UInt8} {g:Nat} {w0 w w':World} (h:RFS k v g w0 w) (f:Below w.heap.size w w'):RFS k v g w0 w':=⟨(f.block g (A8 h.1)).trans h.1,h.2.1.trans (f.mono h.2.1.size),h.2.2⟩
theorem B1t {vd kw k:List UInt8} (hk:k=vd++46::kw) (AA:vd≠ []) (ha:∀j:Nat,j<vd.length->∃c,vd[j]?=some c/\65<=c.toNat/\c.toNat<=90):∃c t,k=c::t/\65<=c.toNat/\c.toNat<=90:=by
 cases vd with
 |nil=>exact absurd rfl AA
 |cons c t=>
  obtain⟨d,e,h1,h2⟩:=ha 0 (by simp);obtain rfl:c=d:=by simpa using e
  exact⟨c,t++46::kw,by rw[hk];rfl,h1,h2⟩
noncomputable def B4Y:Code:=I2 13 (Tryz.f61.body.getD .skip)
noncomputable def B5x:Code:=I2 9 (Tryz.f61.body.getD .skip)
theorem B5A (k v:List UInt8) (g:Nat) (w0 w:World) (K:RFS k v g w0 w) (hk:k.length<4611686018427387904) (P:Prop) (hP: (∃c t,k=c::t/\65<=c.toNat/\c.toNat<=90)->P)
  {c0 c2 c3 c4 c5 c6 c7 c8 c9 aA aB aD aF aG aH aI aJ aK aL c20 c21 aM aN aO aP aQ aR aS aT aU aV aW aX aY aZ bA c37 bB bC bD bE bF bG bH bI c46 bJ bK bL bM c51 bN c53 bP bQ bR bS bT bU bV bW bX bY bZ cA cB cC cD cE cF cG cH cI cJ c75 cL cM cO cP c80 cQ cS cT cU c85:Value}:
  Code.wp Tryz.prog B4Y (bodyPost Tryz.prog Tryz.f61 (P9 P w0)) ⟨(c0::.pointer (some ⟨g,0,none⟩)::c2::c3::c4::c5::c6::c7::c8::c9::aA::aB::aD::aF::aG::aH::aI::aJ::aK::aL::c20::c21::aM::aN::aO::aP::aQ::aR::aS::aT::aU::aV::aW::aX::aY::aZ::bA::c37::bB::bC::bD::bE::bF::bG::bH::bI::c46::bJ::bK::bL::bM::c51::bN::c53::bP::bQ::bR::bS::bT::bU::bV::bW::bX::bY::bZ::cA::cB::cC::cD::cE::cF::cG::cH::cI::cJ::c75::cL::cM::cO::cP::c80::cQ::cS::cT::cU::c85::[]).toArray,[]⟩ w:=by
 conv=>arg 2;whnf
 have x0:=K.key;have HC:=A0 (B4c k 46 w hk);have HB:=A0 K.2.1;have HP:=A0 hP;clear K hP;go_wp2_with fail
 refine HC.out.mono ?_;rintro e w1 ⟨vd,kw,ok,rfl,hb,AO,AM,AH⟩;have AA:=A0 (HB.out.trans (hb.mono HB.out.size));have AE:=A0 AH;clear hb AH x0 HC HB;cases ok with
 |false=>
  go_wp2_with fail
  go_ret
  exact⟨0,rfl,AA.out,by decide,λh=>by cases h⟩
 |true=>
  have HE:=A0 (AE.out rfl);clear AE;cases AB:vd.isEmpty with
  |true=>
   have AB:vd=[]:=by simpa using AB
   subst AB;go_wp2_with fail
   go_ret
   exact⟨0,rfl,AA.out,by decide,λh=>by cases h⟩
  |false=>
   have HN:Hid (vd≠ []):=A0 (by simpa using AB);cases AC:kw.isEmpty with
   |true=>
    have AC:kw=[]:=by simpa using AC
    subst AC;go_wp2_with fail
    go_ret
    exact⟨0,rfl,AA.out,by decide,λh=>by cases h⟩
   |false=>
    go_wp2_with fail
    go_loopw [72] (λs wr=>∃j:Nat,j<=vd.length/\s= .int .i64 j/\wr=w1/\Hid (∀i:Nat,i<j->∃c,vd[i]?=some c/\65<=c.toNat/\c.toNat<=90)) (λs _=>vd.length- (intOf s).toNat)
    case atStart=>exact⟨0,zW _,rfl,rfl,A0 λi hi=>absurd hi (Nat.not_lt_zero _)⟩
    case round=>
     obtain⟨j,hj,rfl,rfl,HA⟩:=hrel;by_cases AG:j<vd.length
     ·have AD: (j:Int)<vd.length:=by omega
      have hx:=A0K vd j AG;have HG:Hid (vd[j]?=some vd[j]):=A0 (zF AG);generalize vd[j]=x at*;by_cases h1:x.toNat<65
      ·have AJ: (x.toNat:Int)<65:=by omega
       go_wp2_with fail
       go_ret
       exact⟨0,rfl,AA.out,by decide,λh=>by cases h⟩
      ·have AJ:¬(x.toNat:Int)<65:=by omega
       by_cases h2:90<x.toNat
       ·have AL: (90:Int)<x.toNat:=by omega
        go_wp2_with fail
        go_ret
        exact⟨0,rfl,AA.out,by decide,λh=>by cases h⟩
       ·have AL:¬(90:Int)<x.toNat:=by omega
        have AI:Hid (∀i:Nat,i<j+1->∃c,vd[i]?=some c/\65<=c.toNat/\c.toNat<=90):=A0 λi hi=>if h:i=j then⟨x,by rw[h];exact HG.out,by omega,by omega⟩ else HA.out i (by omega)
        clear HA HG;go_wp2_with fail
        go_roundw
        case rel=>exact⟨j+1,by omega,by go_num,trivial,AI⟩
        case measure=>simp[intOf];omega
     ·have AD:¬(j:Int)<vd.length:=by omega
      go_wp2_with fail
      go_ret
      exact⟨1,rfl,AA.out,by decide,λ_=>HP.out (B1t HE.out HN.out (λi hi=>HA.out i (by omega)))⟩
theorem B8k (k v:List UInt8) (g:Nat) (w0 w:World) (K:RFS k v g w0 w) (hk:k.length<4611686018427387904) (hv:v.length<4611686018427387904) (P:Prop) (hP: ((0:UInt8)∉k/\(0:UInt8)∉v/\v≠ []/\k.take 7≠B1M/\∃c t,k=c::t/\65<=c.toNat/\c.toNat<=90)->P)
  {c0 c2 c3 c4 c5 c6 c7 c8 c9 aA aB aD aF aG aH aI aJ aK aL c20 c21 aM aN aO aP aQ aR aS aT aU aV aW aX aY aZ bA c37 bB bC bD bE bF bG bH bI c46 bJ bK bL bM c51 bN c53 bP bQ bR bS bT bU bV bW bX bY bZ cA cB cC cD cE cF cG cH cI cJ c75 cL cM cO cP c80 cQ cS cT cU c85:Value}:
  Code.wp Tryz.prog B5x (bodyPost Tryz.prog Tryz.f61 (P9 P w0)) ⟨(c0::.pointer (some ⟨g,0,none⟩)::c2::c3::c4::c5::c6::c7::c8::c9::aA::aB::aD::aF::aG::aH::aI::aJ::aK::aL::c20::c21::aM::aN::aO::aP::aQ::aR::aS::aT::aU::aV::aW::aX::aY::aZ::bA::c37::bB::bC::bD::bE::bF::bG::bH::bI::c46::bJ::bK::bL::bM::c51::bN::c53::bP::bQ::bR::bS::bT::bU::bV::bW::bX::bY::bZ::cA::cB::cC::cD::cE::cF::cG::cH::cI::cJ::c75::cL::cM::cO::cP::c80::cQ::cS::cT::cU::c85::[]).toArray,[]⟩ w:=by
 conv=>arg 2;whnf
 have HK:=A0 K;have HP:=A0 hP;have x0:=K.key;clear K hP;refine wp_seq_k (λK1 AI=> ?_);have AQ:=A0 AI;clear AI;cases AC:k.isEmpty with
 |true=>
  have AC:k=[]:=by simpa using AC
  subst AC;go_wp2_with fail
  go_ret
  exact⟨2,rfl,HK.out.2.1,by decide,λh=>by cases h⟩
 |false=>
  go_wp2_with fail
  refine AQ.out _ _ ?_;clear AC;refine wp_seq_k (λK2 AJ=> ?_);have AE:=A0 AJ;clear AJ;have x1:=HK.out.val;cases AD:v.isEmpty with
  |true=>
   have AD:v=[]:=by simpa using AD
   subst AD;go_wp2_with fail
   go_ret
   exact⟨0,rfl,HK.out.2.1,by decide,λh=>by cases h⟩
  |false=>
   have HN:Hid (v≠ []):=A0 (by simpa using AD);go_wp2_with fail
   refine(A5P k _ hk).mono ?_;rintro e w1 ⟨b1,rfl,AL,AO⟩;have AB:=A0 (HK.out.step AL);have AG:=A0 AO;clear AL AO x0 x1;have x0:=AB.out.key;have x1:=AB.out.val;cases b1 with
   |false=>
    go_wp2_with fail
    go_ret
    exact⟨0,rfl,AB.out.2.1,by decide,λh=>by cases h⟩
   |true=>
    go_wp2_with fail
    refine(A5P v _ hv).mono ?_;rintro e w2 ⟨b2,rfl,AM,AP⟩;have AA:=A0 (AB.out.step AM);have AH:=A0 AP;clear AM AP x0 x1;have x0:=AA.out.key;have x1:=AA.out.val;cases b2 with
    |false=>
     go_wp2_with fail
     go_ret
     exact⟨0,rfl,AA.out.2.1,by decide,λh=>by cases h⟩
    |true=>
     by_cases h7:7<=k.length
     ·have AR: (7:Int)<=k.length:=by omega
      have hs: (⟨k.toArray⟩:ByteArray).extract 0 7=⟨(k.take 7).toArray⟩:=by rw[L3];rfl
      cases AS: (k.take 7==[83,67,72,73,76,89,46]) with
      |true=>
       go_wp2_with fail
       go_ret
       exact⟨0,rfl,AA.out.2.1,by decide,λh=>by cases h⟩
      |false=>
       have HS:Hid (k.take 7≠B1M):=A0 (by simpa[B1M] using AS);go_wp2_with fail
       refine AE.out _ _ ?_;exact B5A k v g w0 w2 AA.out hk P (λh=>HP.out ⟨AG.out trivial,AH.out trivial,HN.out,HS.out,h⟩)
     ·have AR:¬(7:Int)<=k.length:=by omega
      have HS:Hid (k.take 7≠B1M):=A0 λe=>by
       have:=congrArg List.length e;rw[zR] at this;have h2:B1M.length=7:=rfl;omega
      go_wp2_with fail
      refine AE.out _ _ ?_;exact B5A k v g w0 w2 AA.out hk P (λh=>HP.out ⟨AG.out trivial,AH.out trivial,HN.out,HS.out,h⟩)
theorem A8R (k v:List UInt8) (w:World) (hk:k.length<4611686018427387904) (hv:v.length<4611686018427387904):Calls Tryz.prog 61 #[.agg #[str k,str v]] w (P9 (A2r k v) w):=by
 have HK:Hid (RFS k v w.heap.size w (w.alloc (.cells #[str k,str v] 108))):=A0 ⟨zI w _,(zD _ w).alloc (zB _) _,zB _⟩;have x0:=HK.out.key;have AB:=A0 (λwx=>A9a k wx hk);go_enter Tryz.func61,Tryz.ntmps61
 go_upto_region 1 with fail
 obtain⟨wA,AH⟩:∃wA,wA=w.alloc (.cells #[str k,str v] 108):=⟨_,rfl⟩;rw[<-AH] at HK x0⊢;clear AH;generalize w.heap.size=g at*;go_wp2_with fail
 refine(AB.out _).mono ?_;rintro e wx ⟨rfl,rfl⟩;cases AG: (k.take 11==gsB) with
 |true=>
  go_wp2_with fail
  go_ret
  exact⟨0,rfl,HK.out.2.1,by decide,λh=>by cases h⟩
 |false=>
  have AM:Hid (k.take 11≠gsB):=A0 (by simpa using AG);clear AG AB;rename_i Ka AD Kb AO Kc AP;have AL:=A0 AD;clear AD;go_wp2_with fail
  refine AL.out _ _ ?_;refine wp_seq_k (λK1 AC=> ?_);have AJ:=A0 AC;clear AC;go_wp2_with fail
  go_loopw [14] (λs wr=>∃j:Nat,j<=k.length/\s= .int .i64 j/\wr=wA/\Hid (∀i:Nat,i<j->k[i]?≠some 61)) (λs _=>k.length- (intOf s).toNat)
  case atStart=>exact⟨0,zW _,rfl,rfl,A0 λi hi=>absurd hi (Nat.not_lt_zero _)⟩
  case round=>
   obtain⟨j,hj,rfl,rfl,HA⟩:=hrel;by_cases AE:j<k.length
   ·have AA: (j:Int)<k.length:=by omega
    have hx:=A0K k j AE;have HG:Hid (k[j]?=some k[j]):=A0 (zF AE);generalize k[j]=x at*;by_cases h1:x=61
    ·subst h1
     go_wp2_with fail
     go_ret
     exact⟨2,rfl,HK.out.2.1,by decide,λh=>by cases h⟩
    ·have h2: (x.toNat==61)=false:=by rw[zG];exact λe=>h1 (UInt8.toNat_inj.1 e)
     have h3: ((x.toNat:Int)==61)=false:=by rw[zG];exact λe=>h1 (UInt8.toNat_inj.1 (show x.toNat=61 by omega))
     have AI:Hid (∀i:Nat,i<j+1->k[i]?≠some 61):=A0 λi hi=>if h:i=j then by rw[h,HG.out];simpa using h1 else HA.out i (by omega)
     clear h1 HA HG;go_wp2_with fail
     go_roundw
     case rel=>exact⟨j+1,by omega,by go_num,trivial,AI⟩
     case measure=>simp[intOf];omega
   ·have AA:¬(j:Int)<k.length:=by omega
    have HE:Hid ((61:UInt8)∉k):=A0 λhm=>by
     obtain⟨i,hi,e⟩:=List.getElem_of_mem hm;exact HA.out i (by omega) (by rw[zF hi,e])
    clear HA;go_wp2_with fail
    refine AJ.out _ _ ?_;exact B8k k v g w wr HK.out hk hv (A2r k v) (λh=>⟨h.1,h.2.1,h.2.2.1,HE.out,AM.out,h.2.2.2⟩)
def A4k (l:List UInt8) (i:Nat):Prop:=1<=i/\i<=155/\i+1<l.length/\l[i]?=some 47/\l.length-i-1<=100
def A6g (l:List UInt8) (i:Nat) (w:World) (e:Ending) (w':World):Prop:=∃b,e= .returned (.bool b)/\w'=w/\(b=true->A4k l i)
theorem A7C {l:List UInt8} {i:Nat} {w:World}:A6g l i w (.returned (.bool false)) w:=⟨false,rfl,rfl,λh=>by cases h⟩
theorem B1R (l:List UInt8) (i:Nat) (w:World) (hl:l.length<4611686018427387904) (hi:i<l.length):Calls Tryz.prog 84 #[str l,.int .i64 i] w (A6g l i w):=by
 have AH: (i:Int)<l.length:=by omega
 have hx:=A0K l i hi;have HG:Hid (l[i]?=some l[i]):=A0 (zF hi);generalize l[i]=x at*;have HF:Hid (A6g l i w (.returned (.bool false)) w):=A0 A7C;by_cases h1:1<=i
 ·have AB: (1:Int)<=i:=by omega
  by_cases h2:i<=155
  ·have AC: (i:Int)<=155:=by omega
   by_cases h3:x=47
   ·have HX:=A0 h3
    have AD: ((x.toNat:Int)==47)=true:=by subst h3;rfl
    have AA: (x.toNat==47)=true:=by subst h3;rfl
    clear h3;have w1:IntKind.i64.wrap ((l.length:Int)-i)=(l.length:Int)-i:=zQ _ (by omega);have w2:IntKind.i64.wrap ((l.length:Int)-i-1)=(l.length:Int)-i-1:=zQ _ (by omega);by_cases h4:i+1<l.length
    ·have AE: (1:Int)<=(l.length:Int)-i-1:=by omega
     by_cases h5:l.length-i-1<=100
     ·have AG: (l.length:Int)-i-1<=100:=by omega
      have HO:Hid (A6g l i w (.returned (.bool true)) w):=A0 ⟨true,rfl,rfl,λ_=>⟨h1,h2,h4,by rw[HG.out,HX.out],h5⟩⟩;clear h1 h2 h4 h5 hi HG HX;go_enter Tryz.func84,Tryz.ntmps84
      go_wp2_with fail
      go_ret
      exact HO.out
     ·have AG:¬(l.length:Int)-i-1<=100:=by omega
      clear h1 h2 h4 h5 hi HG HX;go_enter Tryz.func84,Tryz.ntmps84
      go_wp2_with fail
      go_ret
      exact HF.out
    ·have AE:¬(1:Int)<=(l.length:Int)-i-1:=by omega
     clear h1 h2 h4 hi HG HX;go_enter Tryz.func84,Tryz.ntmps84
     go_wp2_with fail
     go_ret
     exact HF.out
   ·have AD: ((x.toNat:Int)==47)=false:=by rw[zG];exact λe=>h3 (UInt8.toNat_inj.1 (show x.toNat=47 by omega))
    have AA: (x.toNat==47)=false:=by rw[zG];exact λe=>h3 (UInt8.toNat_inj.1 e)
    clear h1 h2 h3 hi HG;go_enter Tryz.func84,Tryz.ntmps84
    go_wp2_with fail
    go_ret
    exact HF.out
  ·have AC:¬(i:Int)<=155:=by omega
   clear h1 h2 hi HG;go_enter Tryz.func84,Tryz.ntmps84
   go_wp2_with fail
   go_ret
   exact HF.out
 ·have AB:¬(1:Int)<=i:=by omega
  clear h1 hi HG;go_enter Tryz.func84,Tryz.ntmps84
  go_wp2_with fail
  go_ret
  exact HF.out
theorem A9b (l:List UInt8) (w:World) (hl:l.length<4611686018427387904):Calls Tryz.prog 56 #[str l] w (A5y (∃i,A4k l i) w):=by
 have HS:=A0 (λi hi=>B1R l i w hl hi);go_enter Tryz.func56,Tryz.ntmps56
 go_wp2_with fail
 go_loop [6] (λs=>∃k:Nat,k<=l.length/\s= .int .i64 k) (λs=>l.length- (intOf s).toNat)
 case atStart=>exact⟨0,zW _,rfl⟩
 case round=>
  obtain⟨k,hk,rfl⟩:=hrel;by_cases AB:k<l.length
  ·have AA: (k:Int)<l.length:=by omega
   have hs:=HS.out k AB;go_wp2_with fail
   refine hs.mono ?_;clear hs;rintro e w' ⟨b,rfl,rfl,hp⟩;have HP:=A0 hp;clear hp;cases b with
   |true=>
    go_wp2_with fail
    go_ret
    exact⟨true,rfl,zD _ _,λ_=>⟨k,HP.out trivial⟩⟩
   |false=>
    go_wp2_with fail
    go_round
    case rel=>exact⟨k+1,by omega,by go_num⟩
    case measure=>simp[intOf];omega
  ·have AA:¬(k:Int)<l.length:=by omega
   go_wp2_with fail
   go_ret
   exact⟨false,rfl,zD _ _,λh=>by cases h⟩
end Go.Proofs.YtkanmkcojlefbaaGreatDoor
