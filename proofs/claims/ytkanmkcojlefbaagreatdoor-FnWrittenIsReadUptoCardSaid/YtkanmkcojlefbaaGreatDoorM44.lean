/-
  Part of the proof; holds the texts Fls.
-/
import Derived.Test.YtkanmkcojlefbaaGreatDoorM43
import Derived.Great.BuildSlice
set_option maxHeartbeats 400000
set_option maxRecDepth 100000
set_option linter.unusedSimpArgs false
set_option linter.unusedVariables false
namespace Go.Proofs.YtkanmkcojlefbaaGreatDoor
open Go.RowKit
def B7z (tr r g n c i:Nat) (pd:Nat) (B:C1) (H:Hd) (R:KV) (nb:Int) (w:World) (e:Ending) (w':World):Prop:=
 ∃hb fr,e= .returned (.tuple #[.pointer (some ⟨hb,0,none⟩),.nilIface])/\w'.heap[hb]?=some (.cells H.cells.toArray 130 (0,0))/\J4 w' H.recs R w'.heap.size/\RD r g n c i w'/\TR tr r (pd:Nat) (.iface 146 (.pointer (some ⟨fr,0,none⟩))) (Lib.byteCells B.bytes) .nilIface w'/\FRd fr r nb w'/\Fr w.heap.size [r,tr] w w'/\w.heap.size<=hb/\w.heap.size<=fr
def C0a (AA:List UInt8) (pd:Nat) (B:C1) (Hf:Nat->Hd) (R2:KV) (nb:Int):Prop:=
 ∀ (w:World) (tr r g n c i p0 fr:Nat) (bs:List UInt8) (AB:List Value) (aE:Addr),RD r g n c i w->FRd fr r 0 w->TR tr r p0 (.iface 146 (.pointer (some ⟨fr,0,none⟩))) AB .nilIface w->p0<512->i+p0+AA.length<=n->n<4611686018427387904->n<=c->bs.length=n->At w g 0 (Lib.byteCells bs)->g∉[r,tr]->(bs.drop (i+p0)).take AA.length=AA->w.cell? ⟨0,0,none⟩=some (I7 aE)->0∉[r,tr]->
  Calls Tryz.prog 72 #[.pointer (some ⟨tr,0,none⟩)] w λe w'=>∃mb,B7z tr r g n c (i+p0+AA.length) pd B (Hf mb) R2 nb w e w'
theorem B9z.q {AA:List UInt8} {B:C1} {Hf:Nat->Hd} {R2:KV} {nb:Nat} (h:B9z AA B Hf R2 nb):C0a AA (E7 nb).toNat B Hf R2 nb:=by
 intro w tr r g n c i p0 fr bs AG aE a1 a2 a3 a4 a5 a6 a7 a8 a9 AB AC AD AE;refine(h w tr r g n c i p0 fr bs AG aE a1 a2 a3 a4 a5 a6 a7 a8 a9 AB AC AD AE).mono ?_;rintro e w' ⟨mb,hb,fr,k1,k2,k3,k4,k5,k6⟩;have e1: (((E7 nb).toNat:Nat):Int)=E7 nb:=by unfold E7;omega
 exact⟨mb,hb,fr,k1,k2,k3,k4,by rw[e1];exact k5,k6⟩
theorem C0K (w:World) (tr r g n c i pd:Nat) (AL:Int) (AD:Value) (AH:List Value) (B:C1) (Hf:Nat->Hd) (R:KV) (nb:Int) (ht:TR tr r AL AD AH .nilIface w) (hC:Calls Tryz.prog 72 #[.pointer (some ⟨tr,0,none⟩)] w λe w'=>∃mb,B7z tr r g n c i pd B (Hf mb) R nb w e w'):
  Calls Tryz.prog 37 #[.pointer (some ⟨tr,0,none⟩)] w λe w'=>∃mb,B7z tr r g n c i pd B (Hf mb) R nb w e w':=by
 have HC:=A0 hC;obtain⟨c0,c1,c2,aA,z1,z2,AE⟩:=O4 ht.2 ht.1;have AP:=A8 ht.1;clear hC c0 c1 c2 z1 z2 AE ht;go_enter Tryz.func37,Tryz.ntmps37
 go_wp2_with fail
 refine HC.out.mono ?_;rintro e w1 ⟨mb,hb,fr,rfl,k1,k2,k3,k4,k5,k6,k7,k8⟩;obtain⟨d0,d1,d2,aB,y1,y2,AM⟩:=O4 k4.2 k4.1;have hs:=B6 (i:=515) (.nilIface:Value) k4.1;have AI:tr≠hb:=by omega
 have AJ:tr≠fr:=by omega
 have AA:Fr w1.heap.size [tr] w1 (w1.setCell ⟨tr,515,none⟩ .nilIface):=(Fr.refl _ _ w1).setCell (p:=⟨tr,515,none⟩) (.inl (by simp)) _
 have AG:r≠tr:=by
  obtain⟨p,hr⟩:=k3;rintro rfl;rw[k4.1] at hr;cases hr
 have AB:B7z tr r g n c i pd B (Hf mb) R nb w (.returned (.tuple #[.pointer (some ⟨hb,0,none⟩),.nilIface])) (w1.setCell ⟨tr,515,none⟩ .nilIface):=by
  refine⟨hb,fr,rfl,AA.cells k1 (by simp;omega) (.inr (by decide)),k2.fr AA (λq hq es cl e=>by obtain rfl:=List.mem_singleton.1 hq;rw[k4.1] at e;cases e),k3.fr AA (by simpa using AG),⟨?_,k4.2⟩,AA.cells k5 (by simp;omega) (.inr (by decide)),k6.thn AA k6.size (by simp),k7,k8⟩;rw[hs];congr 2
  apply Array.ext_getElem?;intro q;rw[Array.getElem?_setIfInBounds];split
  ·rename_i e
   subst e;have:=A5I (.iface 84 (.pointer (some ⟨r,0,none⟩))) (.int .i64 (pd:Nat)) (.iface 146 (.pointer (some ⟨fr,0,none⟩))) (.nilIface) (Lib.byteCells B.bytes) k4.2;split
   ·exact this.symm
   ·rename_i AO
    exfalso
    have h2:=Array.getElem?_eq_none (xs:=N8 (.iface 84 (.pointer (some ⟨r,0,none⟩))) (.int .i64 (pd:Nat)) (.iface 146 (.pointer (some ⟨fr,0,none⟩))) (Lib.byteCells B.bytes) .nilIface) (i:=515) (by omega);rw[h2] at this;cases this
  ·rfl
 have AC:=A0 AB;clear hs AA AG AB k1 k2 k3 k4 k5 k6 k7 k8 d0 d1 d2 y1 y2 AI AJ;go_wp2_with fail
 go_ret2
 exact⟨mb,AC.out⟩
structure Ent where
 out:List UInt8
 ds:List UInt8
 pd:Nat
 B:C1
 Hf:Nat->Hd
 R2:KV
structure C0Z (e:Ent):Prop where
 c:C0a e.out e.pd e.B e.Hf e.R2 e.ds.length
 io:∀mb,(e.Hf mb).InO
 len:e.ds.length<=1048576
 pd:e.pd<512
def arc:List Ent->List UInt8
 | []=> []
 |e::l=>e.out++e.ds++List.replicate e.pd 0++arc l
def A0I (h:IH) (dv:Value) (e:Int):List Value:=h.cells++[dv,.int .i64 e]
structure FD (r g n c i0 nb fr fbk:Nat) (bs:List UInt8) (hd:IH) (w3:World) (dv:Value) (p:Nat) (e:Int) (w:World):Prop where
 R:RD r g n c (i0+p) w
 F:FRd fr r (nb-p:Nat) w
 C:w.heap[fbk]?=some (.cells (A0I hd dv e).toArray 91 (0,0))
 A:w.ownsRow w3.heap.size 5 1 dv p (Lib.byteCells ((bs.drop i0).take p))
 K:Fr w3.heap.size [r,fr,fbk] w3 w
structure Bw (B:Nat) (S:List Nat) (w w':World):Prop where
 os:w'.os=w.os
 tape:w'.tape=w.tape
 output:w'.output=w.output
 size:w.heap.size<=w'.heap.size
 block:∀k o,w.heap[k]?=some o->k<B->k∉S->w'.heap[k]?=some o
theorem Bw.refl (B:Nat) (S:List Nat) (w:World):Bw B S w w:=⟨rfl,rfl,rfl,zB _,λ_ _ h _ _=>h⟩
theorem Bw.trans {B:Nat} {S:List Nat} {a b c:World} (h:Bw B S a b) (k:Bw B S b c):Bw B S a c:=
 ⟨k.os.trans h.os,k.tape.trans h.tape,k.output.trans h.output,zP h.size k.size,λq o hq hB hS=>k.block q o (h.block q o hq hB hS) hB hS⟩
theorem Fr.bw {B B':Nat} {S:List Nat} {w w':World} (h:Fr B' S w w') (hB:B<=B'):Bw B S w w':=
 ⟨h.os,h.tape,h.output,h.size,λq o hq AA hS=>h.block q o hq hS (λhb=>absurd hb (by omega))⟩
theorem Bw.cell {B:Nat} {S:List Nat} {w w':World} (h:Bw B S w w') {a:Addr} {v:Value} (hv:w.cell? a=some v) (hB:a.block<B) (hS:a.block∉S):w'.cell? a=some v:=by
 have hl:=zC hv;have hg:w.heap[a.block]?=some w.heap[a.block]:=Array.getElem?_eq_getElem hl;exact(zZ ((h.block _ _ hg hB hS).trans hg.symm)).trans hv
theorem At.bw {B:Nat} {S:List Nat} {w w':World} (h:Bw B S w w') {g o:Nat} {cs:List Value} (ha:At w g o cs) (hB:g<B) (hS:g∉S):At w' g o cs:=
 λj v hj=>h.cell (ha j v hj) hB hS
def C1B (w:World) (B:Nat) (rv:Value):Prop:=∀p n c,rv= .slice (some p) n c->B<=p.block/\∃cur fz,w.heap[p.block]?=some (.cells cur 59 fz)
def B7y (w:World) (B:Nat) (e:Ent) (cs:List Value):Prop:=
 ∃mb rv L dv,cs=A0I ({A0e (e.Hf mb) with recs:=rv}:IH) dv 1/\N5 w rv L/\C1B w B rv/\A8j e.R2 L/\w.ownsRow B 5 1 dv e.ds.length (Lib.byteCells e.ds)
def C0y (B:Nat) (w w':World):Prop:=∀k o,w.heap[k]?=some o->B<=k->(∀c fz,o≠ .cells c 91 fz)->w'.heap[k]?=some o
theorem B7y.keep {w w':World} {B:Nat} {e:Ent} {cs:List Value} (h:B7y w B e cs) (hk:C0y B w w'):B7y w' B e cs:=by
 obtain⟨mb,rv,L,dv,h1,⟨p,c,hv,hc⟩,h3,h4,h5⟩:=h;refine⟨mb,rv,L,dv,h1,⟨p,c,hv,λj hj=> ?_⟩,λp n c e=> ?_,h4,h5.1,?_⟩
 ·obtain⟨rg,ro,rfl,k1,k2,k3⟩:=hc j hj
  obtain⟨q1,cur,fz,q2⟩:=h3 _ _ _ hv;have q3:=hk _ _ q2 q1 (λc fz e=>by cases e);exact⟨rg,ro,rfl,A8 q3,(zZ (a:=⟨rg,ro+j*2,none⟩) (q3.trans q2.symm)).trans k2,(zZ (a:=⟨rg,ro+j*2+1,none⟩) (q3.trans q2.symm)).trans k3⟩
 ·obtain⟨q1,cur,fz,q2⟩:=h3 _ _ _ e
  exact⟨q1,cur,fz,hk _ _ q2 q1 (λc fz e=>by cases e)⟩
 ·rcases h5.2 with h|⟨g,cap,cur,k1,k2,k3,k4⟩
  ·exact .inl h
  ·exact .inr ⟨g,cap,cur,k1,k2,hk _ _ k3 k2 (λc fz e=>by cases e),k4⟩
def A4A {α:Type} (P:α->List Value->Prop) (l:List α) (cs:List Value):Prop:=
 ∃AA:List (List Value),cs=AA.flatten/\AA.length=l.length/\∀ (j:Nat) (a:α) (x:List Value),l[j]?=some a->AA[j]?=some x->P a x
theorem A4A.mono {α:Type} {P P':α->List Value->Prop} {l:List α} {cs:List Value} (h:A4A P l cs) (hk:∀a x,P a x->P' a x):A4A P' l cs:=by
 obtain⟨AA,h1,h2,h3⟩:=h;exact⟨AA,h1,h2,λj e x he hx=>hk _ _ (h3 j e x he hx)⟩
theorem A4A.snoc {α:Type} {P:α->List Value->Prop} {l:List α} {cs:List Value} (h:A4A P l cs) {a:α} {x:List Value} (hx:P a x):A4A P (l++[a]) (cs++x):=by
 obtain⟨AB,rfl,h2,h3⟩:=h;refine⟨AB++[x],by simp,by simp[h2],λj e' x' he AA=> ?_⟩;rcases Nat.lt_trichotomy j AB.length with hj|hj|hj
 ·rw[zX hj] at AA
  rw[zX (by omega)] at he;exact h3 j e' x' he AA
 ·rw[hj,zT (zB _),Nat.sub_self] at AA
  rw[hj,h2,zT (zB _),Nat.sub_self] at he;cases AA;cases he;exact hx
 ·rw[List.getElem?_eq_none (by simp;omega)] at AA;cases AA
theorem A4A.nil {α:Type} (P:α->List Value->Prop):A4A P [] []:=⟨[],rfl,rfl,λj e x he=>by cases he⟩
theorem B9l {s:Nat}:∀ (AA:List (List Value)),(∀x∈AA,x.length=s)->∀ (j:Nat) (x:List Value),AA[j]?=some x->∀ (i:Nat) (u:Value),x[i]?=some u->AA.flatten[j*s+i]?=some u:=by
 intro AA;induction AA with
 |nil=>intro _ j x h;cases h
 |cons y AA ih=>
  intro hl j x hj i u hu;have hy:=hl y List.mem_cons_self;cases j with
  |zero=>
   cases hj
   rw[List.flatten_cons,Nat.zero_mul,Nat.zero_add,zX (zM.1 hu).1];exact hu
  |succ j=>
   have:=ih (λz hz=>hl z (List.mem_cons_of_mem _ hz)) j x hj i u hu;rw[List.flatten_cons,zT (by rw[hy,Nat.succ_mul];omega),hy,show(j+1)*s+i-s=j*s+i by rw[Nat.succ_mul];omega];exact this
theorem A4A.get {α:Type} {P:α->List Value->Prop} {l:List α} {cs:List Value} (s:Nat) (h:A4A P l cs) (hs:∀a x,P a x->x.length=s) (j:Nat) (a:α) (hj:l[j]?=some a):∃x,P a x/\∀ (i:Nat) (u:Value),x[i]?=some u->cs[j*s+i]?=some u:=by
 obtain⟨AA,rfl,h2,h3⟩:=h;have AB:=(zM.1 hj).1;obtain⟨x,hx⟩:∃x,AA[j]?=some x:=⟨_,zF (by omega)⟩;refine⟨x,h3 j a x hj hx,λi u hu=>B9l AA (λy hy=> ?_) j x hx i u hu⟩;obtain⟨q,hq,rfl⟩:=List.mem_iff_getElem.1 hy;exact hs (l[q]'(by omega)) _ (h3 q _ _ (zF (by omega)) (zF hq))
theorem B7t {w:World} {B:Nat} {T:TypeId} {s:Nat} {v:Value} {n:Nat} {xs:List Value} (h:w.ownsRow B T s v n xs) (hn:0<n):∃g c,v= .slice (some ⟨g,0,none⟩) n c/\n<=c/\c<=maxLen/\g<w.heap.size/\At w g 0 xs:=by
 rcases h.2 with ⟨-,h0⟩|⟨g,cap,cur,rfl,h1,h2,h3,h4,h5,h6⟩
 ·omega
 ·exact⟨g,cap,rfl,h3,h4,A8 h2,At.of_heap h2 (λj u hj=>by
   rw[<-h6,List.getElem?_take] at hj;split at hj
   ·rw[Nat.zero_add,<-Array.getElem?_toList];exact hj
   ·cases hj)⟩
def B7q (w:World) (B:Nat) (es:List Ent) (cs:List Value):Prop:=A4A (B7y w B) es cs
theorem B7q.keep {w w':World} {B:Nat} {es:List Ent} {cs:List Value} (h:B7q w B es cs) (hk:C0y B w w'):B7q w' B es cs:=A4A.mono h λ_ _ hx=>hx.keep hk
structure FSt (tr r g n c:Nat) (bs:List UInt8) (es:List Ent) (w0:World) (k:Nat) (v:Value) (w:World):Prop where
 pos:∃ (i p0 fr:Nat) (blk:List Value),RD r g n c i w/\FRd fr r 0 w/\TR tr r p0 (.iface 146 (.pointer (some ⟨fr,0,none⟩))) blk .nilIface w/\p0<512/\bs.drop (i+p0)=arc (es.drop k)++List.replicate 1024 0/\i+p0+(arc (es.drop k)).length+1024=n
 own:∃cs,w.ownsRow w0.heap.size 91 23 v k cs/\B7q w w0.heap.size (es.take k) cs
 K:Bw w0.heap.size [r,tr] w0 w
theorem B9n: (Tryz.prog.info? 91).map (·.size)=some 23:=by kernel_rfl
theorem C0F (X:IH):Tryz.prog.built 91 [(0,.agg X.cells.toArray)]=some (A0I X (.slice none 0 0) 0).toArray:=by kernel_rfl
theorem B9k (X:IH) (dv:Value) (e:Int) (hr:X.recs.oneCell'=true) (hd:dv.oneCell'=true):∀v∈A0I X dv e,v.oneCell'=true:=by
 intro v hv;rcases List.mem_append.1 hv with h|h
 ·exact B5a X hr v h
 ·simp at h
  rcases h with rfl|rfl
  ·exact hd
  ·rfl
theorem B7u {w:World} {g:Nat} {z:Array Value} (X:IH) (dv:Value) (e:Int) (hr:X.recs.oneCell'=true) (hd:dv.oneCell'=true) (hz:z.size=23) (hg:w.heap[g]?=some (.cells z 91 (0,0))):
  ∃w',(storeVar 91 ⟨g,0,none⟩ (.agg (A0I X dv e).toArray)).run Tryz.prog w= .ok () w'/\w'.heap[g]?=some (.cells (A0I X dv e).toArray 91 (0,0))/\(∀k,k≠g->w'.heap[k]?=w.heap[k]?)/\(∀ (B:Nat) (w0:World),Below B w0 w->B<=g->Below B w0 w')/\w'.heap.size=w.heap.size:=by
 have hs:=A1V w g 0 91 91 z (A0I X dv e).toArray hg (by rw[B9n];rfl) (by rw[hz];exact zB 23) (by simpa using B9k X dv e hr hd)
 have e2:z.toList.take 0++(A0I X dv e).toArray.toList++z.toList.drop (0+(A0I X dv e).toArray.size)=A0I X dv e:=by
  rw[List.take_zero,List.nil_append,List.drop_eq_nil_of_le (by rw[Array.length_toList,hz];exact zB 23),QH]
 rw[e2] at hs;refine⟨_,hs,setRow_heap w g z _ 91 _ hg,λk hk=>setRow_other w g k _ hk,λB w0 hb hB=> ?_,by simp⟩;exact⟨hb.os,hb.tape,hb.output,by simpa using hb.size,λk hk=>(setRow_other w g k _ (by omega)).trans (hb.block k hk)⟩
theorem C0h {g:Nat} {X:IH} {dv:Value} {e:Int} {w:World} (hs:w.heap[g]?=some (.cells (A0I X dv e).toArray 91 (0,0))): (loadVar 91 ⟨g,0,none⟩).run Tryz.prog w= .ok (.agg (A0I X dv e).toArray) w:=
 run_loadVar_row (P:=Tryz.prog) w g 91 91 (A0I X dv e).toArray (0,0) _ hs Tryz.underlying91 rfl (by kernel_rfl)
theorem B4h {AA:Array Oper} {rest:List Oper} {o:Oper} {a:Act} {w:World} {Q:Exit->Act->World->Prop} (hg:o.guard=none) (t:TypeId) (i:Nat) (x:Operand) (AB:o.op=Op.build t #[(i,x)]) (v:Value) (hx:a.eval x=v) (u:Array Value) (hb:Tryz.prog.built t [(i,v)]=some u)
  (h:wpList Tryz.prog AA Q rest (a.put o.dst (.agg u)) w):wpList Tryz.prog AA Q (o::rest) a w:=
 wpList_plain hg λ_ hK=>by
  unfold Oper.wp execOp;have hr:=run_build (P:=Tryz.prog) w t #[(i,v)] u hb;simp only[AB,hx,List.map_toArray,List.map_cons,List.map_nil,Sem.run_bind,hr,Result.andThen_ok];exact hK _ _ h
theorem B7s {w w':World} {B:Nat} {T:TypeId} {s:Nat} {v:Value} {n:Nat} {xs:List Value} (h:w.ownsRow B T s v n xs) (hk:∀ (q:Nat) (c:Array Value),w.heap[q]?=some (.cells c T (0,0))->B<=q->w'.heap[q]?=some (.cells c T (0,0))):w'.ownsRow B T s v n xs:=by
 refine⟨h.1,?_⟩;rcases h.2 with h|⟨g,cap,cur,h1,h2,h3,h4⟩
 ·exact .inl h
 ·exact .inr ⟨g,cap,cur,h1,h2,hk _ _ h3 h2,h4⟩
theorem B9I {o:Oper} {a:Act} {w:World} {K:Act->World->Prop} {Q:Exit->Act->World->Prop} (s x:Operand) (t:TypeId) (ho:o.op= .call {callee:= .builtin .append,args:=#[s,x],argTypes:=#[t,t]}) (v u:Value) (hs:a.eval s=v) (hx:a.eval x=u) (v':Value) (w':World)
  (hr: (Builtin.append_ #[t,t] o.type #[v,u]).run Tryz.prog w= .ok v' w') (h:K (a.put o.dst v') w'):Oper.wp Tryz.prog o a w K Q:=by
 unfold Oper.wp execOp;simp only[ho,resolve,invoke,builtin,Sem.run_bind,Sem.run_pure,Result.andThen_ok,List.map_toArray,List.map_cons,List.map_nil,hs,hx,hr];exact h
theorem B9N: (Tryz.prog.info? 91).map (λi=>(i.zero,i.size,i.bytes))=some (some (.agg #[.int .u8 0,str [],str [],.int .i64 0,.int .i64 0,.int .i64 0,.int .i64 0,str [],str [],.int .i64 0,.int .i64 0,.bool false,.int .i64 0,.int .i64 0,.bool false,.int .i64 0,.int .i64 0,.int .i64 0,.int .i64 0,.slice none 0 0,.int .i64 0,.slice none 0 0,.int .i64 0]),23,248):=by kernel_rfl
theorem C0e (X:IH) (dv:Value) (e:Int):Instr.fill (λi=>some (i*23,23)) ((Array.range (1*23)).map (#[.int .u8 0,str [],str [],.int .i64 0,.int .i64 0,.int .i64 0,.int .i64 0,str [],str [],.int .i64 0,.int .i64 0,.bool false,.int .i64 0,.int .i64 0,.bool false,.int .i64 0,.int .i64 0,.int .i64 0,.int .i64 0,.slice none 0 0,.int .i64 0,.slice none 0 0,.int .i64 0][·% 23]!)) [(0,.agg (A0I X dv e).toArray)]=some (A0I X dv e).toArray:=by kernel_rfl
theorem C1d (X:IH) (dv:Value) (e:Int) (w:World): (Instr.buildSlice 45 1 #[(0,.agg (A0I X dv e).toArray)]).run Tryz.prog w= .ok (.slice (some ⟨w.heap.size,0,none⟩) 1 1) (w.alloc (.cells (A0I X dv e).toArray 91)):=by
 obtain⟨i,hi,hz,hs,hb⟩:=info_parts B9N;refine run_buildSlice w 45 91 1 _ _ i _ Tryz.underlying45 hi hz (by rw[hs];decide) (by rw[hs];decide) ?_;rw[hs];exact C0e X dv e
theorem A5j {AA:Array Oper} {rest:List Oper} {o:Oper} {a:Act} {w:World} {Q:Exit->Act->World->Prop} (hg:o.guard=none) (t:TypeId) (x:Operand) (AB:o.op=Op.buildSlice t 1 #[(0,x)]) (v:Value) (hx:a.eval x=v) (u:Value) (w':World) (hr: (Instr.buildSlice t 1 #[(0,v)]).run Tryz.prog w= .ok u w')
  (h:wpList Tryz.prog AA Q rest (a.put o.dst u) w'):wpList Tryz.prog AA Q (o::rest) a w:=
 wpList_plain hg λ_ hK=>by
  unfold Oper.wp execOp;simp only[AB,hx,List.map_toArray,List.map_cons,List.map_nil,Sem.run_bind,hr,Result.andThen_ok];exact hK _ _ h
def B9o (AA nb:Nat) (w:World):Nat:=(nb-B7I ((w.cell? ⟨AA,21,none⟩).getD undef))+(1- (intOf ((w.cell? ⟨AA,22,none⟩).getD undef)).toNat)
theorem B3n {AA nb:Nat} {X:IH} {dv:Value} {e:Int} {w:World} (h:w.heap[AA]?=some (.cells (A0I X dv e).toArray 91 (0,0))):B9o AA nb w=(nb-B7I dv)+(1-e.toNat):=by
 have h1:w.cell? ⟨AA,21,none⟩=some dv:=by rw[zA h];rfl
 have h2:w.cell? ⟨AA,22,none⟩=some (.int .i64 e):=by rw[zA h];rfl
 unfold B9o;rw[h1,h2];rfl
theorem B9K (w:World) (cs:List Value) (T:TypeId):At (w.alloc (.cells cs.toArray T)) w.heap.size 0 cs:=
 At.of_heap (zI w _) (λj u hj=>by rw[Nat.zero_add,List.getElem?_toArray];exact hj)
theorem B8x {w:World} {B:Nat} {e:TypeId} {s:Nat} {v:Value} {n:Nat} {xs:List Value} (h:w.ownsRow B e s v n xs):B7I v=n:=by
 rcases h.2 with ⟨rfl,h2⟩|⟨g,cap,cur,rfl,-⟩
 ·exact h2.symm
 ·rfl
def B9f (r tr:Nat) (es:List Ent) (w:World) (e:Ending) (w':World):Prop:=
 ∃v,e= .returned (.tuple #[v,.int .i64 1])/\(∃cs,w'.ownsRow w.heap.size 91 23 v es.length cs/\B7q w' w.heap.size es cs)/\Bw w.heap.size [r,tr] w w'
theorem C0H (w0:World) (tr r g n c BS:Nat) (bs:List UInt8) (Bv:List Value) (aE:Addr) (es:List Ent) (CL:∀e∈es,C0Z e) (De:es.length<=4294967296)
  (h:RD r g n c 0 w0) (hf:FRd BS r 0 w0) (ht:TR tr r 0 (.iface 146 (.pointer (some ⟨BS,0,none⟩))) Bv .nilIface w0) (Ac:bs=arc es++List.replicate 1024 0) (hn:bs.length=n) (DF:n<=140737488355328) (Bb:n<=c) (BC:At w0 g 0 (Lib.byteCells bs)) (Ad:g∉[r,tr]) (CO:g<w0.heap.size) (hE:w0.cell? ⟨0,0,none⟩=some (I7 aE)) (AY:0∉[r,tr]):
  Calls Tryz.prog 46 #[.pointer (some ⟨tr,0,none⟩),.int .i64 1048577] w0 (B9f r tr es w0):=by
 have Dl:r<w0.heap.size:=by obtain⟨p,hr⟩:=h;exact A8 hr
 have Dp:=A8 ht.1
 have Dm:r≠tr:=by
  obtain⟨p,hr⟩:=h;rintro rfl;rw[ht.1] at hr;cases hr
 have By:=zC hE;have AW:Hid (FSt tr r g n c bs es w0 0 (.slice none 0 0) w0):=A0 ⟨⟨0,0,BS,Bv,h,hf,ht,by decide,by rw[Ac];rfl,by rw[<-hn,Ac,zH,z7,List.drop_zero];omega⟩,⟨[],World.ownsRow_nil _ _ _ _,A4A.nil _⟩,Bw.refl _ _ _⟩;have Cm:=A0 CL;have Ag:=A0 BC;have HE:=A0 hE;have HN:=A0 hn;clear h hf ht Ac BC hE CL hn;go_enter Tryz.func46,Tryz.ntmps46
 go_wp2_with fail
 go_loopw [6] (λs6 wr=>∃k:Nat,k<=es.length/\Hid (FSt tr r g n c bs es w0 k s6 wr)) (λs6 _=>es.length-B7I s6)
 case atStart=>exact⟨0,zW _,AW⟩
 case round=>
  obtain⟨wo,rfl⟩:∃wo,wo=wr:=⟨_,rfl⟩;obtain⟨k,hk,hS⟩:=hrel;obtain⟨i,p0,fr,AX,hR,hF,hT,CW,AZ,Aa⟩:=hS.out.pos;have hA:=Ag.out.bw hS.out.K CO Ad;have Aj:=hS.out.K.cell HE.out By AY;clear AW;by_cases Ba:k<es.length
  ·have AM:=Cm.out es[k] (List.getElem_mem Ba)
   obtain⟨en,BL⟩:∃en,en=es[k]:=⟨_,rfl⟩;rw[<-BL] at AM;have BV:es.drop k=en::es.drop (k+1):=by rw[BL];exact List.drop_eq_getElem_cons Ba
   have Ak:arc (es.drop k)=en.out++en.ds++List.replicate (en.pd) 0++arc (es.drop (k+1)):=by rw[BV];rfl
   rw[Ak] at AZ Aa;have CG: (en.out++en.ds++List.replicate (en.pd) 0++arc (es.drop (k+1))).length=en.out.length+en.ds.length+en.pd+(arc (es.drop (k+1))).length:=by simp only[List.length_append,List.length_replicate]
   rw[CG] at Aa;have hC:=AM.c wo tr r g n c i p0 fr bs AX aE hR hF hT CW (by omega) (by omega) Bb HN.out hA Ad (by rw[AZ];simp only[List.append_assoc];exact List.take_left) Aj AY;have HC:=A0 (C0K wo tr r g n c (i+p0+en.out.length) en.pd p0 _ AX en.B en.Hf en.R2 en.ds.length hT hC);have Bo:=A0 AM.io;have DK:=AM.len;have Cs:=A0 AM.pd;have HS:=hS;have Bl:=A0 AZ;have Cl:=A0 BL;have Da:=A0 BV;clear hS hR hF hT hA Aj hC AM AZ BL BV Ak CG;go_wp2_with fail
   refine HC.out.mono ?_;rintro e w1 ⟨mb,hb,AB,rfl,k1,k2,k3,k4,k5,k6,k7,k8⟩;have HH:=A0 (B2T w1 hb (en.Hf mb) en.R2 (Bo.out mb) k1 k2);have Bq:=A0 k3;have Bt:=A0 k4;have BQ:=A0 k5;have AS:=A0 k6;clear HC Bo k1 k2 k3 k4 k5 k6;go_wp2_with fail
   refine HH.out.mono ?_;rintro e w2 ⟨rv,L,rfl,q1,q2,q3,An⟩;have Cv:=A0 (Bq.out.below An);have Cx:=A0 (Bt.out.below An);have BH:Hid (FRd AB r en.ds.length w2):=A0 ((An.block AB (A8 BQ.out)).trans BQ.out);have Ct:=A0 q1;have Bp:=A0 q2;have Cu:=A0 q3;have AU:=A0 An;clear HH Bq Bt BQ;obtain⟨X,hX⟩:∃X,X=({A0e (en.Hf mb) with recs:=rv}:IH):=⟨_,rfl⟩;rw[<-hX];have Ax:X.recs.oneCell'=true:=by rw[hX];obtain⟨p,c,rfl,-⟩:=q1;rfl
   obtain⟨wA,BP⟩:∃wA,wA=w2.alloc (.cells #[.int .u8 0,.string {data:=#[]},.string {data:=#[]},.int .i64 0,.int .i64 0,.int .i64 0,.int .i64 0,.string {data:=#[]},.string {data:=#[]},.int .i64 0,.int .i64 0,.bool false,.int .i64 0,.int .i64 0,.bool false,.int .i64 0,.int .i64 0,.int .i64 0,.int .i64 0,.slice none 0 0,.int .i64 0,.slice none 0 0,.int .i64 0] 91):=⟨_,rfl⟩;have CI:Below w2.heap.size w2 wA:=by rw[BP];exact(zD _ _).alloc (zB _) _
   have BJ:∃z:Array Value,z.size=23/\wA.heap[w2.heap.size]?=some (.cells z 91 (0,0)):=by rw[BP];exact⟨_,rfl,zI w2 _⟩
   obtain⟨z,hz,BJ⟩:=BJ;obtain⟨w3,CZ,BW,DN,Ao,DR⟩:=B7u X (.slice none 0 0) 0 Ax rfl hz BJ;have CH:Below w2.heap.size w2 w3:=Ao _ _ CI (zB _);have AW:=A0 CZ;have Bh:=A0 (C0F X);have Bu:=A0 BP;have Bn:=A0 BW;have AO:=A0 CH;have DQ:w2.heap.size<w3.heap.size:=A8 BW;have HX:=A0 hX;clear hX CZ BP BW CH DN Ao DR hz BJ CI q1 q2 q3 An;go_wp2_with (first|(refine B4h rfl 91 0 _ rfl (.agg X.cells.toArray) rfl _ Bh.out ?_)|(rw[<-Bu.out];refine E6 rfl 91 _ _ rfl ⟨w2.heap.size,0,none⟩ rfl (.agg (A0I X (.slice none 0 0) 0).toArray) rfl w3 AW.out ?_)|fail)
   have DH:r≠w2.heap.size/\tr≠w2.heap.size/\AB≠w2.heap.size/\AB<w2.heap.size/\wo.heap.size<=w2.heap.size/\w0.heap.size<=wo.heap.size:=by
    have h1:=AU.out.size;have h2:=AS.out.size;have h3:=HS.out.K.size;have h4:=A8 BH.out;omega
   obtain⟨AA,BO⟩:∃AA,AA=w2.heap.size:=⟨_,rfl⟩;have Co:Hid (FD r g n c (i+p0+en.out.length) en.ds.length AB AA bs X w3 (.slice none 0 0) 0 0 w3):=A0 ⟨Cv.out.below AO.out,(AO.out.block AB (A8 BH.out)).trans BH.out,by rw[BO];exact Bn.out,World.ownsRow_nil _ _ _ _,Fr.refl _ _ _⟩;rw[<-BO] at DH Bn DQ⊢;have Cn:=A0 BO;have BX:=Ad;have Ai:=AY;simp only[List.mem_cons,List.not_mem_nil,or_false,not_or] at BX Ai;have Ch:Hid (At w3 g 0 (Lib.byteCells bs)):=A0 ((((Ag.out.bw HS.out.K CO Ad).frame AS.out (zB _) Ad).frame (Fr.of_below AU.out _ []) (zB _) (by simp)).frame (Fr.of_below AO.out _ []) (zB _) (by simp))
   have Af:Hid (w3.cell? ⟨0,0,none⟩=some (I7 aE)):=A0 (by
    have q0:=HS.out.K.cell HE.out By AY;have q1:=AS.out.cell q0 AY (zC q0);have q2:=(AU.out.cell (p:=⟨0,0,none⟩) (zC q1)).trans q1;exact(AO.out.cell (p:=⟨0,0,none⟩) (zC q2)).trans q2)
   have BR:=A0 (Cx.out.below AO.out);clear BO AW Bh Bu;dsimp only[Act.put];go_loopw [] (λwr=>∃ (p:Nat) (dv:Value) (e:Int),p<=en.ds.length/\((e=0/\(p=0\/p<en.ds.length))\/(e=1/\p=en.ds.length))/\Hid (FD r g n c (i+p0+en.out.length) en.ds.length AB AA bs X w3 dv p e wr)) (λwr=>B9o AA en.ds.length wr)
   case atStart=>exact⟨0,_,0,zW _,.inl ⟨rfl,.inl rfl⟩,Co⟩
   case round=>
    obtain⟨p,dv,e,hp,DO,hD⟩:=hrel
    obtain⟨pp,cc,rfl⟩:∃pp cc,dv= .slice pp p cc:=by
     rcases hD.out.A.2 with ⟨rfl,h0⟩|⟨gg,cap,cur,rfl,-⟩
     ·exact⟨none,0,by rw[h0]⟩
     ·exact⟨_,_,rfl⟩
    have aD:wr.cell? ⟨AA,21,none⟩=some (.slice pp p cc):=by rw[zA hD.out.C];rfl
    have aF:wr.cell? ⟨AA,22,none⟩=some (.int .i64 e):=by rw[zA hD.out.C];rfl
    rcases DO with ⟨rfl,CX⟩|⟨rfl,CX⟩
    ·obtain⟨m,hm,DM,Di,Dj⟩:∃m:Nat,min (512:Int) (1048577-p)=m/\0<m/\m<=512/\(m=512\/en.ds.length-p<m):=by
      by_cases hc: (1048577:Int)-p<512
      ·exact⟨1048577-p,by omega,by omega,by omega,.inr (by omega)⟩
      ·exact⟨512,by omega,by decide,by decide,.inl rfl⟩
     have DL: (p:Int)<1048577:=by omega
     obtain⟨kk,Aw⟩:∃kk,kk=min m (en.ds.length-p):=⟨_,rfl⟩;obtain⟨i5,CP,Ce,Cf,Cg⟩:=info_parts info5;have HI:=A0 (And.intro CP (And.intro Ce (And.intro Cf Cg)));clear CP Ce Cf Cg;have AP:Below wr.heap.size wr (wr.alloc (.cells (madeCells #[.int .u8 0] m) 5)):=(zD _ _).alloc (zB _) _;have BY: (wr.alloc (.cells (madeCells #[.int .u8 0] m) 5)).heap[wr.heap.size]?=some (.cells (madeCells #[.int .u8 0] m) 5 (0,0)):=zI wr _;have DS: (madeCells #[.int .u8 0] m).toList.length=m:=by rw[Array.length_toList,size_madeCells]
     have Dh:=hD.out.K.size;obtain⟨d,hd⟩:∃d,d=wr.heap.size:=⟨_,rfl⟩;obtain⟨wm,BE⟩:∃wm,wm=wr.alloc (.cells (madeCells #[.int .u8 0] m) 5):=⟨_,rfl⟩;rw[<-BE,<-hd] at BY;rw[<-BE] at AP;have CD:=hD.out.R.below AP;have CC:FRd AB r (en.ds.length-p:Nat) wm:=(AP.block AB (A8 hD.out.F)).trans hD.out.F;have DE:=(AP.block AA (A8 hD.out.C)).trans hD.out.C;have CF:=(BR.out.fr hD.out.K (by simp;omega)).below AP;have Bz:At wm g 0 (Lib.byteCells bs):=(Ch.out.frame hD.out.K (zB _) (by simp;omega)).frame (Fr.of_below AP _ []) (zB _) (by simp);have Ab:=hD.out.K.cell Af.out (by simp;omega) (zC Af.out);have CB:=(AP.cell (p:=⟨0,0,none⟩) (zC Ab)).trans Ab;have Av:wm.heap[d]?=some (.cells (madeCells #[.int .u8 0] m).toList.toArray 5 (0,0)):=by rw[Array.toArray_toList];exact BY
     have HC:=A0 (B6J wm tr r g n c (i+p0+en.out.length+p) kk (en.ds.length-p) AB d 0 m m _ _ bs _ 5 aE CD CC CF Aw (by omega) DM (zB _) (by omega) (by omega) Bb HN.out Bz Av (by omega) (by omega) (by omega) (by omega) (by omega) CB (by simp;omega));have Cy:=A0 BE;have Bk:=A0 hd;have HD:=hD;have Do:wm.heap.size=d+1:=by rw[BE,hd];exact Array.size_push ..
     have AV:=A0 Aw;clear CD CC CF Bz Ab CB BY Av hD BE hd Aw;go_wp2_with (first|(refine wpList_make_row _ rfl (.tmp 45) (.tmp 45) 35 rfl 5 i5 (.int .u8 0) Tryz.underlying35 HI.out.1 HI.out.2.1 HI.out.2.2.1 rfl .i64 .i64 m rfl rfl (by rw[HI.out.2.2.2];omega) (by omega) ?_)|fail)
     rw[<-Bk.out,<-Cy.out];refine HC.out.mono ?_;rintro e w4 ⟨rfl,g1,g2,g3,g4⟩;have DG:=Bk.out;have Aw:=AV.out;have AT: ((bs.drop (i+p0+en.out.length+p)).take kk).length=kk:=by rw[zR,List.length_drop,HN.out];omega
     have Dn:=g4.size
     have f4:Fr wr.heap.size [r,AB] wr w4:=(Fr.of_below AP _ _).thn g4 AP.size (by
      intro q hq;simp at hq;rcases hq with rfl|rfl|rfl
      ·exact .inl (by simp)
      ·exact .inr (by omega)
      ·exact .inl (by simp))
     have Ah:w4.drew.ownsRow w3.heap.size 5 1 (.slice pp p cc) p (Lib.byteCells ((bs.drop (i+p0+en.out.length)).take p)):=B7s HD.out.A (λq c hq hB=>f4.block q _ hq (by simp;omega) (λhb=>absurd (A8 hq) (by omega)));have BT:w4.drew.heap[AA]?=some (.cells (A0I X (.slice pp p cc) 0).toArray 91 (0,0)):=f4.block AA _ HD.out.C (by simp;omega) (λ_ c fz e=>by cases e)
     have Al:At w4.drew d 0 (Lib.byteCells ((bs.drop (i+p0+en.out.length+p)).take kk)):=At.of_heap (w:=w4.drew) g3 (λj u hj=>by
      have DI:=(zM.1 hj).1;rw[Nat.zero_add,List.getElem?_toArray,splice,List.take_zero,List.nil_append,zX DI];exact hj)
     obtain⟨v2,w5,Be,Ae,AR,-⟩:=run_append_own (P:=Tryz.prog) (w:=w4.drew) w3.heap.size 35 35 5 i5 (.int .u8 0) 1 1 Tryz.underlying35 HI.out.1 HI.out.2.1 HI.out.2.2.1 HI.out.2.2.2 rfl (by decide) _ p _ Ah ⟨d,0,none⟩ kk m (Lib.byteCells ((bs.drop (i+p0+en.out.length+p)).take kk)) (by rw[zJ,AT,Nat.mul_one]) Al.src (Lib.byteCells_one _) (by unfold maxLen;omega) (by omega) (show w3.heap.size<=w4.heap.size by omega)
     obtain⟨q2,c2,rfl⟩:∃q2 c2,v2= .slice q2 (p+kk) c2:=by
      rcases Ae.2 with ⟨rfl,h0⟩|⟨gg,cap,cur,rfl,-⟩
      ·exact⟨none,0,by rw[h0]⟩
      ·exact⟨_,_,rfl⟩
     obtain⟨v2,Ca⟩:∃v2,v2=Value.slice q2 (p+kk) c2:=⟨_,rfl⟩;rw[<-Ca] at Ae Be;have f5:Fr w3.heap.size [] w4.drew w5:=B2x Ah AR (zB _) _;have BI:=f5.cells BT (by simp) (.inr (by decide));have Dg:kk<=m:=by omega
     have BD:AA≠r/\AA≠AB/\0≠AA/\AB<w3.heap.size/\0<AB/\¬0=r:=⟨by omega,by omega,by omega,by omega,by omega,Ai.1⟩
     have BU:w5.cell? ⟨0,0,none⟩=some (I7 aE):=by
      have Ab:=HD.out.K.cell Af.out (by simp;omega) (zC Af.out);have q1:=f4.cell Ab (by simp;omega) (zC Ab);exact f5.cell (show w4.drew.cell? ⟨0,0,none⟩=_ from q1) (by simp) (zC Af.out)
     have s1:=B6 (i:=21) v2 BI
     have Ar:∀e',FD r g n c (i+p0+en.out.length) en.ds.length AB AA bs X w3 v2 (p+kk) e' ((w5.setCell ⟨AA,21,none⟩ v2).setCell ⟨AA,22,none⟩ (.int .i64 e')):=by
      intro e';have fs:Fr w3.heap.size [AA] w5 ((w5.setCell ⟨AA,21,none⟩ v2).setCell ⟨AA,22,none⟩ (.int .i64 e')):=((Fr.refl _ _ w5).setCell (p:=⟨AA,21,none⟩) (.inl (by simp)) _).setCell (p:=⟨AA,22,none⟩) (.inl (by simp)) _;have f45:Fr w4.heap.size [] w4 w4.drew:=(Fr.refl _ _ w4).drew;have DC:=(RD.fr (w':=w4.drew) g1 f45 (by simp)).fr f5 (by simp);have DD:FRd AB r (en.ds.length-p-kk:Nat) w5:=f5.cells (show w4.drew.heap[AB]?=_ from g2) (by simp) (.inr (by decide));refine⟨?_,?_,?_,?_,?_⟩
      ·rw[show i+p0+en.out.length+(p+kk)=i+p0+en.out.length+p+kk by omega]
       exact DC.fr fs (by simp;omega)
      ·rw[show en.ds.length- (p+kk)=en.ds.length-p-kk by omega]
       exact fs.cells DD (by simp;omega) (.inr (by decide))
      ·exact B6 (i:=22) (.int .i64 e') s1
      ·rw[<-Lib.byteCells_append,A5n] at Ae
       refine B7s Ae (λq c hq hB=> ?_);have CV:q≠AA:=by rintro rfl;rw[BI] at hq;injection hq with hq;injection hq with _ t _;exact absurd t (by decide)
       exact(C0 (a:=⟨AA,22,none⟩) _ CV).trans ((C0 (a:=⟨AA,21,none⟩) _ CV).trans hq)
      ·have DA:Fr w3.heap.size [r,AB,AA] w4.drew w5:=B2x Ah AR (zB _) _
       have DB:=fs.wide (S':=[r,AB,AA]) (zB _) (by simp);have Cz:Fr w3.heap.size [r,AB,AA] w3 w4:=HD.out.K.thn f4 HD.out.K.size (by simp);exact(Cz.drew.trans DA).trans DB
     have AQ:=A0 Ar;have Bs:=A0 s1;have Ck:Hid ((w5.setCell ⟨AA,21,none⟩ v2).cell? ⟨0,0,none⟩=some (I7 aE)):=A0 (((Fr.refl w5.heap.size [AA] w5).setCell (p:=⟨AA,21,none⟩) (.inl (by simp)) v2).cell BU (by simp;omega) (zC BU));clear Ar s1 BU;have Br:=A0 Be;have Ci:=A0 Ah;have Bi:=A0 BT;have Db:=A0 Ae;have DV:=A0 f4;have DW:=A0 f5;have Bj:=A0 BI;have DZ:=A0 AR;have DX:=A0 g1;have DY:=A0 g2;subst Ca;clear DG Aw Be Ah BT Ae f4 f5 BI AR g1 g2 g3 g4 Al AT HC AP DE;go_wp2_with fail
     refine J1 (S:=λ_=>True) (n:=8) (l0:=S0 8 0) (by kernel_rfl) rfl (by kernel_rfl) trivial (λDr AC hHeld=> ?_);refine tkA AC.out 0 ?_;refine tkA AC.out 2 ?_;refine tkA AC.out 3 ?_;refine tkA AC.out 4 ?_;have DT:w4.drew.cell? ⟨AA,21,none⟩=some (.slice pp p cc):=by rw[zA Bi.out];rfl
     refine rdy AC.out 1 8 31 (λK hK=> ?_);go_simp
     refine hK.out _ _ trivial (λhHeld=> ?_);clear hK K;try simp only[Act.put,C5,C6,C7]
     refine rdy AC.out 5 8 63 (λK hK=> ?_);rw[if_pos (by rw[AC.out];kernel_rfl)];refine B9I (.tmp 54) (.tmp 57) 35 rfl (.slice pp p cc) (.slice (some ⟨d,0,none⟩) kk m) rfl rfl _ w5 Br.out ?_;refine hK.out _ _ trivial (λhHeld=> ?_);clear hK K;try simp only[Act.put,C5,C6,C7]
     refine tkA AC.out 6 ?_;have z21:w5.frozen? ⟨AA,21,none⟩=false:=zE Bj.out 21;have DU:w5.cell? ⟨AA,21,none⟩=some (.slice pp p cc):=by rw[zA Bj.out];rfl
     refine rdy AC.out 7 8 255 (λK hK=> ?_);go_simp
     refine hK.out _ _ trivial (λhHeld=> ?_);clear hK K;try simp only[Act.put,C5,C6,C7]
     refine wpAnyH_done (by rw[AC.out];kernel_rfl) ?_ _;clear z21 DU DT hHeld AC Br Ci Bi;have Dc: (w5.setCell ⟨AA,21,none⟩ (.slice q2 (p+kk) c2)).cell? ⟨AA,22,none⟩=some (.int .i64 0):=by rw[zA Bs.out];rfl
     have Ds: (w5.setCell ⟨AA,21,none⟩ (.slice q2 (p+kk) c2)).frozen? ⟨AA,22,none⟩=false:=zE Bs.out 22;generalize Dq:w5.setCell ⟨AA,21,none⟩ (.slice q2 (p+kk) c2)=w6 at*;by_cases Aq:en.ds.length-p=kk
     ·have eE:A0B (en.ds.length-p) kk aE=I7 aE:=if_pos Aq
      rw[eE];clear eE;go_wp2_with fail
      refine(B3x w6 aE Ck.out).mono ?_;rintro e w7 ⟨rfl,rfl⟩;go_wp2_with fail
      go_roundw
      case rel=>exact⟨p+kk,_,1,(by have:=AV.out;omega),.inr ⟨rfl,(by have:=AV.out;omega)⟩,A0 (AQ.out 1)⟩
      case measure=>
       rw[B3n (AQ.out 1).C,B3n HD.out.C];show(en.ds.length- (p+kk))+0< (en.ds.length-p)+1
       have:=AV.out;omega
     ·have eE:A0B (en.ds.length-p) kk aE= .nilIface:=if_neg Aq
      rw[eE];clear eE;go_wp2_with fail
      refine(A6m w6).mono ?_;rintro e w7 ⟨rfl,rfl⟩;go_wp2_with fail
      go_roundw
      case rel=>exact⟨p+kk,_,0,(by have:=AV.out;omega),.inl ⟨rfl,.inr (by have:=AV.out;omega)⟩,A0 (AQ.out 0)⟩
      case measure=>
       rw[B3n (AQ.out 0).C,B3n HD.out.C];show(en.ds.length- (p+kk))+1< (en.ds.length-p)+1
       have:=AV.out;omega
    ·subst CX
     have AE:=hD.out;obtain⟨i9,CQ,Cb,Cc,Cd⟩:=info_parts B9N;obtain⟨wb,BD⟩:∃wb,wb=wr.alloc (.cells (A0I X (.slice pp en.ds.length cc) 1).toArray 91):=⟨_,rfl⟩;have AL:Below wr.heap.size wr wb:=by rw[BD];exact(zD _ _).alloc (zB _) _
     have Am:At wb wr.heap.size 0 (A0I X (.slice pp en.ds.length cc) 1):=by rw[BD];exact B9K wr _ 91
     have Ac: (Instr.buildSlice 45 1 #[(0,.agg (A0I X (.slice pp en.ds.length cc) 1).toArray)]).run Tryz.prog wr= .ok (.slice (some ⟨wr.heap.size,0,none⟩) 1 1) wb:=by rw[BD];exact C1d _ _ _ _
     obtain⟨cs,AI,As⟩:=HS.out.own
     have AH:∀q o,wo.heap[q]?=some o->q∉[r,tr]->wb.heap[q]?=some o:=by
      intro q o hq Ay;have Bd:=A8 hq;have q1:=AS.out.block q o hq Ay (λhb=>absurd Bd (by omega));have q2:=(AU.out.block q (A8 q1)).trans q1;have q3:=(AO.out.block q (A8 q2)).trans q2;have q4:=AE.K.block q o q3 (by simp at Ay⊢;omega) (λhb=>absurd Bd (by omega));exact(AL.block q (A8 q4)).trans q4
     have BZ:∀q,w0.heap.size<=q->q∉[r,tr]:=λq hq=>by simp;omega
     have AJ:=B7s AI (λq c hq hB=>AH q _ hq (BZ q hB));have Au:=As.keep (w':=wb) (λq o hq hB _=>AH q o hq (BZ q hB));have Bg:w0.heap.size<=w1.heap.size:=by have:=AS.out.size;omega
     have AG:∀q cur fz,w2.heap[q]?=some (.cells cur 59 fz)->w1.heap.size<=q->wb.heap[q]?=some (.cells cur 59 fz):=by
      intro q cur fz hq Bd;have q3:=(AO.out.block q (A8 hq)).trans hq
      have Dk:q≠AB:=by
       rintro rfl;have BM:=BH.out;rw[FRd,hq] at BM;injection BM with BM;injection BM with _ t _;exact absurd t (by decide)
      have DP:=A8 hq;have Df:=Cn.out;have q4:=AE.K.block q _ q3 (by simp;omega) (λhb=>absurd DP (by omega));exact(AL.block q (A8 q4)).trans q4
     have BA:C1B wb w0.heap.size rv:=λp n c e=>by
      obtain⟨q1,cur,fz,q2⟩:=Bp.out p n c e;exact⟨by omega,cur,fz,AG _ _ _ q2 q1⟩
     have Az:N5 wb rv L:=by
      obtain⟨p,c,hv,hc⟩:=Ct.out;refine⟨p,c,hv,λj hj=> ?_⟩;obtain⟨rg,ro,rfl,k1,k2,k3⟩:=hc j hj;obtain⟨q1,cur,fz,q2⟩:=Bp.out _ _ _ hv;have q3:=AG _ _ _ q2 q1;exact⟨rg,ro,rfl,A8 q3,(zZ (a:=⟨rg,ro+j*2,none⟩) (q3.trans q2.symm)).trans k2,(zZ (a:=⟨rg,ro+j*2+1,none⟩) (q3.trans q2.symm)).trans k3⟩
     have CJ: (bs.drop (i+p0+en.out.length)).take en.ds.length=en.ds:=by
      rw[<-List.drop_drop,Bl.out];simp only[List.append_assoc,List.drop_left,List.take_left]
     have Ap:wb.ownsRow w0.heap.size 5 1 (.slice pp en.ds.length cc) en.ds.length (Lib.byteCells en.ds):=by
      have:=AE.A;rw[CJ] at this;exact A1v (A6J this AL) (by have:=AO.out.size;omega)
     have CM:B7y wb w0.heap.size en (A0I X (.slice pp en.ds.length cc) 1):=⟨mb,rv,L,_,by rw[HX.out],Az,BA,Cu.out,Ap⟩;obtain⟨v9,wz,CY,Bc,AD,-⟩:=run_append_own (P:=Tryz.prog) (w:=wb) w0.heap.size 45 45 91 i9 (.agg #[.int .u8 0,str [],str [],.int .i64 0,.int .i64 0,.int .i64 0,.int .i64 0,str [],str [],.int .i64 0,.int .i64 0,.bool false,.int .i64 0,.int .i64 0,.bool false,.int .i64 0,.int .i64 0,.int .i64 0,.int .i64 0,.slice none 0 0,.int .i64 0,.slice none 0 0,.int .i64 0]) 23 248 Tryz.underlying45 CQ Cb Cc Cd rfl (by decide) u6 k cs AJ ⟨wr.heap.size,0,none⟩ 1 1 (A0I X (.slice pp en.ds.length cc) 1) rfl Am.src (B9k X _ 1 Ax rfl) (by unfold maxLen;omega) (by omega) (by have:=AL.size;have:=AE.K.size;omega)
     have BF:∀ (q:Nat) (o:Obj),wb.heap[q]?=some o->(∀c fz,o≠ .cells c 91 fz)->wz.heap[q]?=some o:=by
      intro q o hq ho;refine(AD.block q (A8 hq) (λe=> ?_)).trans hq;rcases AJ.2 with ⟨h0,-⟩|⟨g',cap,cur,h1,h2,h3,h4⟩
      ·rw[h0] at e;cases e
      ·rw[h1] at e;cases e
       rw[hq] at h3;injection h3 with h3;exact ho _ _ h3
     have CA:wz.heap[AA]?=some (.cells (A0I X (.slice pp en.ds.length cc) 1).toArray 91 (0,0)):=by
      have q1:=(AL.block AA (A8 AE.C)).trans AE.C;refine(AD.block AA (A8 q1) (λe=> ?_)).trans q1;rcases AI.2 with ⟨h0,-⟩|⟨g',cap,cur,h1,h2,h3,h4⟩
      ·rw[h0] at e;cases e
      ·rw[h1] at e
       have:g'=AA:=by simpa[Value.ownBlock] using e.symm
       have:=A8 h3;omega
     have CE:FSt tr r g n c bs es w0 (k+1) v9 wz:=by
      refine⟨⟨i+p0+en.out.length+en.ds.length,en.pd,AB,Lib.byteCells en.B.bytes,?_,?_,⟨?_,?_⟩,Cs.out,?_,?_⟩,⟨cs++A0I X (.slice pp en.ds.length cc) 1,Bc,?_⟩,?_⟩
      ·obtain⟨pv,hr⟩:=AE.R
       exact⟨pv,BF r _ ((AL.block r (A8 hr)).trans hr) (λc fz e=>by cases e)⟩
      ·have hf:=AE.F
       rw[Nat.sub_self] at hf;exact BF AB _ ((AL.block AB (A8 hf)).trans hf) (λc fz e=>by cases e)
      ·have ht:=BR.out.fr AE.K (by simp;omega)
       exact BF tr _ ((AL.block tr (A8 ht.1)).trans ht.1) (λc fz e=>by cases e)
      ·exact BR.out.2
      ·rw[show i+p0+en.out.length+en.ds.length+en.pd=(i+p0)+((en.out++en.ds++List.replicate (en.pd) 0).length) by simp only[List.length_append,List.length_replicate];omega,<-List.drop_drop,Bl.out]
       rw[QG _ (arc _),List.drop_left]
      ·omega
      ·have:=B7q.keep (A4A.snoc Au CM) (w':=wz) (λq o hq _ ho=>BF q o hq ho)
       rw[zU Ba,<-Cl.out];exact this
      ·refine⟨?_,?_,?_,?_,?_⟩
       ·exact AD.os.trans (AL.os.trans (AE.K.os.trans (AO.out.os.trans (AU.out.os.trans (AS.out.os.trans HS.out.K.os)))))
       ·exact AD.tape.trans (AL.tape.trans (AE.K.tape.trans (AO.out.tape.trans (AU.out.tape.trans (AS.out.tape.trans HS.out.K.tape)))))
       ·exact AD.output.trans (AL.output.trans (AE.K.output.trans (AO.out.output.trans (AU.out.output.trans (AS.out.output.trans HS.out.K.output)))))
       ·have:=AD.size;have:=AL.size;have:=AE.K.size;omega
       ·intro q o hq hB Ay
        have q1:=AH q o (HS.out.K.block q o hq hB Ay) Ay;refine(AD.block q (A8 q1) (λe=> ?_)).trans q1;rcases AJ.2 with ⟨h0,-⟩|⟨g',cap,cur,h1,h2,h3,h4⟩
        ·rw[h0] at e;cases e
        ·rw[h1] at e
         have:g'=q:=by simpa[Value.ownBlock] using e.symm
         omega
     have CT:=B8x AI;have CU:=B8x Bc;have Cr:=A0 (C0h AE.C);have Dd:wz.cell? ⟨AA,22,none⟩=some (.int .i64 1):=by rw[zA CA];rfl
     have AW:=A0 CE;have Cj:=A0 Ac;have Cw:=A0 CY;have Cp:=A0 CT;have Cq:=A0 CU;clear CE Ac CY CT CU CA BF AD Bc CM Ap CJ Az BA AG Bg Au AJ BZ AH As AI Am AL BD CQ Cb Cc Cd AE;go_wp2_with (first|(refine D3 rfl 91 _ rfl ⟨AA,0,none⟩ rfl _ Cr.out ?_)|(refine A5j rfl 45 _ rfl (.agg (A0I X (.slice pp en.ds.length cc) 1).toArray) rfl _ wb Cj.out ?_)|(at_builtin;refine X2 rfl (.tmp 63) (.tmp 65) 45 rfl _ _ rfl rfl v9 wz Cw.out ?_)|fail)
     go_roundw
     case rel=>exact⟨k+1,by omega,AW⟩
     case measure=>
      rw[Cq.out,Cp.out];omega
  ·have DJ:k=es.length:=by omega
   subst DJ;rw[List.drop_length] at AZ Aa;have CK:bs.drop (i+p0)=List.replicate 1024 0:=AZ;have HC:=A0 (B9R wo tr r g n c i p0 fr bs AX aE hR hF CW hT (by have: (arc []).length=0:=rfl;omega) (by omega) Bb HN.out hA Ad (by rw[CK];rfl) Aj AY);have Bm:=A0 Aj;have HS:=hS;clear hS hR hF hT hA Aj AZ CK;go_wp2_with fail
   refine HC.out.mono ?_;rintro e w1 ⟨rfl,hF⟩;go_wp2_with fail
   refine(B3x w1 aE (hF.cell Bm.out AY (zC Bm.out))).mono ?_;rintro e w2 ⟨rfl,rfl⟩;go_wp2_with fail
   go_ret2
   obtain⟨cs,ho,CN⟩:=HS.out.own;rw[List.take_length] at CN;have CR:∀q o,wo.heap[q]?=some o->w0.heap.size<=q->w1.heap[q]?=some o:=λq o hq hB=>hF.block q o hq (by simp;omega) (λhb=>absurd (A8 hq) (by omega));exact⟨_,rfl,⟨cs,B7s ho (λq c hq hB=>CR q _ hq hB),CN.keep (λq o hq hB _=>CR q o hq hB)⟩,HS.out.K.trans (hF.bw HS.out.K.size)⟩
end Go.Proofs.YtkanmkcojlefbaaGreatDoor
