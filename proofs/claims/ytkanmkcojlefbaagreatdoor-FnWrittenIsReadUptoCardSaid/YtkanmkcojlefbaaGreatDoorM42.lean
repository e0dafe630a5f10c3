/-
  Part of the proof; holds the texts Ih1, L3p, LGl, L3a, DecodeNil, FilesEnd.
-/
import Derived.Test.YtkanmkcojlefbaaGreatDoorM40
import Derived.Test.YtkanmkcojlefbaaGreatDoorM41
import Derived.Test.YtkanmkcojlefbaaGreatDoorM35
import Derived.Lib.LaidU8
import Derived.OpenShut
set_option maxRecDepth 100000
set_option linter.unusedSimpArgs false
set_option linter.unusedVariables false
namespace Go.Proofs.YtkanmkcojlefbaaGreatDoor
open Go.RowKit
theorem A1b.recs {a b:IH} (h:A1b a b) (rv:Value):A1b {a with recs:=rv} b:=by
 cases h;constructor<;>assumption
theorem A3E {g:Nat} {h:IH} {w:World} (hs:w.heap[g]?=some (.cells h.cells.toArray 26 (0,0))): (loadVar 26 ⟨g,0,none⟩).run Tryz.prog w= .ok (.agg h.cells.toArray) w:=
 run_loadVar_row (P:=Tryz.prog) w g 26 26 h.cells.toArray (0,0) _ hs Tryz.underlying26 rfl (by kernel_rfl)
def IH.eff (h:IH):IH:=if h.fmt=0 then h.rnd else h
def IH.hx (h:IH) (rv:Value):Hd:=({h.hd2 with recs:=rv}:Hd).prom.rnd
structure IH.Rng (h:IH):Prop where
 typ:0<=h.typ/\h.typ<256
 size: -9223372036854775808<=h.size/\h.size<=9223372036854775807
 mode: -9223372036854775808<=h.mode/\h.mode<=9223372036854775807
 uid: -9223372036854775808<=h.uid/\h.uid<=9223372036854775807
 gid: -9223372036854775808<=h.gid/\h.gid<=9223372036854775807
 maj: -9223372036854775808<=h.maj/\h.maj<=9223372036854775807
 mnr: -9223372036854775808<=h.mnr/\h.mnr<=9223372036854775807
 ms: -9223372036854775808<=h.ms/\h.ms<=9223372036854775807
structure KOk (K:IH) (L:List (List UInt8×List UInt8)) (f:Int):Prop where
 sum:K.name.length+K.link.length+K.user.length+K.group.length+L1 L<=524288
 odd:O9 K.ms K.mn
 oddA:K.hasA=true->O9 K.ats K.atn
 oddC:K.hasC=true->O9 K.cts K.ctn
 ty:48<=K.sprom.typ/\K.sprom.typ<=55
 sl:A0V K.name=true->K.sprom.typ=53
 name:A0A K.name 256 f
 spl:f=1->K.name.length<=100\/∃i,A4k K.name i
 link:A0A K.link 100 f
 user:Y6 K.user f
 group:Y6 K.group f
 mode:M0 K.mode f false
 uid:M0 K.uid f true
 gid:M0 K.gid f true
 maj:M0 K.maj f false
 mnr:M0 K.mnr f false
 mom:M1 K.ms K.mn f
 sz8:f=1->K.size<8589934592
 sz0:0<=K.size
 us:f=1->0<=K.ms/\K.ms<8589934592/\K.hasA=false/\K.hasC=false
 ma:K.hasA=true->M1 K.ats K.atn f
 mc:K.hasC=true->M1 K.cts K.ctn f
 l2:L≠ []->f=2
 recs:∀r∈L,A2r r.1 r.2
theorem A4g.flat {K:IH} {L:List (List UInt8×List UInt8)} {f:Int} (k:A4g K L f):KOk K L f:=by
 obtain⟨⟨s1,-,-,s4,s5,s6⟩,⟨t1,t2,-,t4⟩,⟨⟨n1,n2⟩,l1,u1,g1⟩,⟨m1,m2,m3,m4,m5⟩,⟨o1,o2⟩,⟨z1,-⟩,us,ma,mc,l2,rs⟩:=k;exact⟨s1,s4,s5,s6,⟨t1,t2⟩,t4,n1,n2,l1,u1,g1,m1,m2,m3,m4,m5,o1,o2,z1,us,ma,mc,l2,rs⟩
theorem A8p {h W:IH} {L:List (List UInt8×List UInt8)} (k:B1h h L W):∃f,1<=f/\f<=3/\KOk h.eff L f/\W= {h.eff.sprom with fmt:=f}/\(h.fmt=0\/h.fmt=f)/\(h.fmt=0->h.mn≠500000000)/\O9 h.ms h.mn/\(h.hasA=true->O9 h.ats h.atn)/\(h.hasC=true->O9 h.cts h.ctn):=by
 obtain⟨hs,⟨h1,h2,h3⟩|⟨h1,h2,f,f1,f2,h3,h4⟩⟩:=k
 ·have e:h.eff=h:=if_neg h1
  have:=hs.2.1;have:=hs.2.2.1;rw[e];exact⟨h.fmt,by omega,by omega,h3.flat,h2,.inr rfl,λe=>absurd e h1,hs.2.2.2⟩
 ·have e:h.eff=h.rnd:=if_pos h1
  rw[e];exact⟨f,f1,f2,h4.flat,h3,.inl h1,λ_=>h2,hs.2.2.2⟩
theorem B5X {h:IH} {f:Int} {L:List (List UInt8×List UInt8)} (g:h.Rng) (k:KOk h.eff L f) (hf:1<=f/\f<=3) (AB:h.fmt=0\/h.fmt=f) (rv:Value):h.hx rv=({h.eff.hd2 with recs:=rv,fmt:=X9 h.fmt}:Hd).prom:=by
 by_cases h0:h.fmt=0
 ·have e:h.eff=h.rnd:=if_pos h0
  have hm:=k.mom;rw[e] at hm⊢
  have AA:h.rnd.ms=h.ms+(if 500000000<h.mn then 1 else 0):=by
   have e1:h.rnd.ms=if 500000000<h.mn then wrap64 (h.ms+1) else h.ms:=rfl
   unfold M1 at hm;rw[e1] at hm⊢;have:=g.ms;split at hm
   ·unfold wrap64 at hm⊢;omega
   ·omega
  have e2: (({h.hd2 with recs:=rv}:Hd).prom).fmt=0:=by show X9 h.fmt=0;rw[h0];rfl
  unfold IH.hx Hd.rnd;rw[if_pos e2];have e3:h.rnd.hd2.mx=h.rnd.ms+62135596800:=rfl;have e4:h.hd2.mx+(if 500000000<h.mn then 1 else 0)=h.rnd.ms+62135596800:=by rw[AA];show h.ms+62135596800+_=_;omega
  have e6: ({h.hd2 with recs:=rv}:Hd).prom.mx+(if 500000000< ({h.hd2 with recs:=rv}:Hd).prom.mw then 1 else 0)=h.rnd.ms+62135596800:=e4;rw[e6];rfl
 ·have e:h.eff=h:=if_neg h0
  have e2:¬(({h.hd2 with recs:=rv}:Hd).prom).fmt=0:=by
   show¬X9 h.fmt=0
   unfold X9;split
   ·decide
   ·split
    ·decide
    ·split
     ·decide
     ·omega
  rw[e];unfold IH.hx Hd.rnd;rw[if_neg e2];rfl
theorem Z3 (L:List (List UInt8×List UInt8)):∀ (m:KV) (k v:List UInt8),E0 m L k=some v->(k,v)∈L\/m k=some v:=by
 induction L with
 |nil=>intro m k v h;exact .inr h
 |cons p L ih=>
  intro m k v h;rcases ih _ k v h with h|h
  ·exact .inl (List.mem_cons_of_mem _ h)
  ·by_cases hk:k=p.1
   ·subst hk;rw[U6] at h;cases h;exact .inl (by simp)
   ·rw[R9 _ _ _ _ hk] at h;exact .inr h
theorem A9Q (L:List (List UInt8×List UInt8)):∀ (m:KV) (k:List UInt8),(m k≠none\/k∈L.map (·.1))->E0 m L k≠none:=by
 induction L with
 |nil=>
      intro m k h;rcases h with h|h
      ·exact h
      ·cases h
 |cons p L ih=>
  intro m k h;refine ih _ k ?_;by_cases hk:k=p.1
  ·subst hk;left;rw[U6];simp
  ·rcases h with h|h
   ·left;rw[R9 _ _ _ _ hk];exact h
   ·right
    rcases List.mem_cons.1 (by simpa using h:k∈p.1::L.map (·.1)) with e|e
    ·exact absurd e hk
    ·exact e
theorem A8C (L:List (List UInt8×List UInt8)):∀ (m:KV) (k:List UInt8),(∀p∈L,p.1≠k)->E0 m L k=m k:=by
 induction L with
 |nil=>intro m k _;rfl
 |cons p L ih=>
  intro m k h;rw[E0,ih _ k (λq hq=>h q (List.mem_cons_of_mem _ hq)),R9 _ _ _ _ (λe=>h p List.mem_cons_self e.symm)]
theorem A8B (L:List (List UInt8×List UInt8)):∀ (m:KV) (i:Nat) (hi:i<L.length),(∀ (j:Nat) (hj:j<L.length),i<j->L[j].1≠L[i].1)->E0 m L L[i].1=some L[i].2:=by
 induction L with
 |nil=>intro m i hi;cases hi
 |cons p L ih=>
  intro m i hi h;cases i with
  |zero=>
   rw[E0,List.getElem_cons_zero,A8C L _ _ (λq hq=> ?_),U6];obtain⟨j,hj,rfl⟩:=List.mem_iff_getElem.1 hq;exact h (j+1) (by simp;omega) (by omega)
  |succ i=>
   rw[E0,List.getElem_cons_succ];exact ih _ i (by simpa using hi) (λj hj AA=>h (j+1) (by simp;omega) (by omega))
theorem A2K {L:List (List UInt8×List UInt8)} {p:List UInt8×List UInt8} (h:p∈L):p.1.length+p.2.length+24<=L1 L:=by
 induction L with
 |nil=>cases h
 |cons q L ih=>
  rw[L1];rcases List.mem_cons.1 h with rfl|h
  ·omega
  ·have:=ih h;omega
theorem A6O (L:List (List UInt8×List UInt8)):L.length*24<=L1 L:=by
 induction L with
 |nil=>simp
 |cons q L ih=>rw[L1,List.length_cons];omega
theorem A8K [DecidableEq (List UInt8×List UInt8)] {L:List (List UInt8×List UInt8)} {p:List UInt8×List UInt8} (h:p∈L):L1 L=p.1.length+p.2.length+24+L1 (L.erase p):=by
 induction L with
 |nil=>cases h
 |cons q L ih=>
  by_cases hq:q=p
  ·subst hq;rw[List.erase_cons_head,L1]
  ·have hm:p∈L:=by rcases List.mem_cons.1 h with e|e;exact absurd e.symm hq;exact e
   rw[List.erase_cons_tail (by simpa using hq),L1,L1,ih hm];omega
theorem B1I:∀ (M L:List (List UInt8×List UInt8)),(M.map (·.1)).Nodup->(∀p∈M,p∈L/\F0 p.1 p.2=true)->(∀p∈M,p.1.length+p.2.length<=1048576)->(D7 M).length<=L1 L:=by
 intro M;induction M with
 |nil=>intro L _ _ _;exact zW _
 |cons q M ih=>
  intro L hn hm hl;have hq:=hm q List.mem_cons_self;rw[A8K hq.1,T7,zH,P7];have AA:=List.nodup_cons.1 (by simpa using hn: (q.1::M.map (·.1)).Nodup);have h1:=A3l q.1 q.2 (by have:=hl q List.mem_cons_self;omega);have h2:=ih (L.erase q) AA.2 (λp hp=>⟨(List.mem_erase_of_ne (λe=>AA.1 (by subst e;exact List.mem_map.2 ⟨p,hp,rfl⟩))).2 (hm p (List.mem_cons_of_mem _ hp)).1,(hm p (List.mem_cons_of_mem _ hp)).2⟩) (λp hp=>hl p (List.mem_cons_of_mem _ hp));omega
theorem A2g {k p:List UInt8} {n:Nat} (hn:n<=p.length) (h:k.take n≠p.take n):Lib.hasPrefix k p=false:=by
 cases hp:Lib.hasPrefix k p with
 |false=>rfl
 |true=>
  obtain⟨t,rfl⟩:=List.isPrefixOf_iff_prefix.1 hp;exact absurd (List.take_append_of_le_length hn) h
theorem A6M {k v:List UInt8} (h:A2r k v):k∉F6:=by
 obtain⟨-,-,-,-,-,-,c,t,rfl,h1,h2⟩:=h;intro hm;have:∀q∈F6,97<=(q.getD 0 0).toNat:=by decide
 have:=this _ hm;simp at this;omega
theorem A4E {k v:List UInt8} (h:A2r k v):F0 k v=true:=by
 have ht:=A6M h;obtain⟨h1,h2,h3,h4,-,-,c,t,rfl,-,-⟩:=h
 have hk:¬((c::t)=H0\/(c::t)=I3\/(c::t)=F8\/(c::t)=F7):=by
  intro e;apply ht;rcases e with e|e|e|e<;>(rw[e];decide)
 simp only[F0,if_neg hk,decide_eq_false h4,decide_eq_false h1];rfl
theorem A2m {n f:Int} (h:M0 n f false) (hf:f≠3):B8 8 n=true:=by
 unfold M0 at h;unfold B8;rw[decide_eq_true_eq];have: (8:Int)^ (8-1)=2097152:=by decide
 rcases h.2.2 hf with ⟨-,h2⟩|h2
 ·cases h2
 ·omega
theorem Z5 {n:Int} {b:Bool} (h:M0 n 1 b):B8 8 n=true:=by
 unfold M0 at h;unfold B8;rw[decide_eq_true_eq];have: (8:Int)^ (8-1)=2097152:=by decide
 rcases h.2.2 (by decide) with ⟨h2,-⟩|h2
 ·cases h2
 ·omega
theorem A0W {n:Int} {b:Bool} (h:M0 n 3 b):M2 8 n=true:=by
 unfold M0 at h;have:=h.2.1 rfl;simp[M2];omega
theorem B3P {l:List UInt8} (ha:D6 l=true) (h1:100<l.length) {i:Nat} (hi:A4k l i):J2 l=true:=by
 obtain⟨i1,i2,i3,i4,i5⟩:=hi
 have AD:i<N6 l/\N6 l<=156/\N6 l<=l.length/\(l[N6 l]?=none->l[N6 l-1]?≠some 47):=by
  unfold N6;split
  ·rename_i h
   refine⟨by omega,by omega,by omega,λe=> ?_⟩;rw[List.getElem?_eq_none_iff] at e;omega
  ·split
   ·rename_i h
    refine⟨by omega,by omega,by omega,λe=> ?_⟩;rw[List.getElem?_eq_none_iff] at e;omega
   ·rename_i h
    exact⟨by omega,by omega,by omega,λ_=>h⟩
 obtain⟨c1,c2,c3,c4⟩:=AD;have AA: (l.take (N6 l)).length=N6 l:=by rw[zR];omega
 have AB:Lib.occAt (l.take (N6 l)) [47] i=true:=by
  rw[Lib.occAt_iff_take _ _ _ (by rw[AA];simp;omega)];have AE:i< (l.take (N6 l)).length:=by omega
  rw[List.drop_eq_getElem_cons AE]
  have: (l.take (N6 l))[i]=47:=by
   rw[List.getElem_take];rw[zF (by omega)] at i4;exact Option.some.inj i4
  rw[this];rfl
 have AC:∃k:Nat,M4 l=k/\i<=k/\k<N6 l/\l[k]?=some 47:=by
  unfold M4 Lib.lastIndex;rw[if_pos (by rw[AA];simp;omega)];rcases Lib.lastOcc_spec (l.take (N6 l)) [47] ((l.take (N6 l)).length- [(47:UInt8)].length+1) with ⟨-,h⟩|⟨k,hk,e,ho,hl⟩
  ·have:=h i (by rw[AA];simp;omega)
   rw[AB] at this;cases this
  ·refine⟨k,e,?_,?_,?_⟩
   ·rcases Nat.lt_or_ge k i with h|h
    ·have:=hl i h (by rw[AA];simp;omega)
     rw[AB] at this;cases this
    ·exact h
   ·rw[AA] at hk;simp at hk;omega
   ·have:=Lib.occAt_head rfl ho
    rw[List.getElem?_take] at this;split at this
    ·exact this
    ·cases this
 obtain⟨k,e,k1,k2,k3⟩:=AC
 have AH:k+1≠l.length:=λe2=>by
  have:N6 l=l.length:=by omega
  exact c4 (by rw[this];exact List.getElem?_eq_none_iff.2 (zB _)) (by rw[this,show l.length-1=k by omega];exact k3)
 have AG:k<l.length:=by omega
 simp only[J2,ha,decide_eq_true h1,Bool.true_and,decide_eq_true_eq,e];omega
section
variable {K:IH} {L:List (List UInt8×List UInt8)} {f F:Int}
def IH.hw (K:IH) (F:Int) (rv:Value):Hd:=({K.hd2 with recs:=rv,fmt:=F}:Hd).prom
theorem A6t (K:IH) (F:Int) (rv:Value): (K.hw F rv).typ=K.sprom.typ:=by
 show(if K.typ=0 then(if T9 K.name then(53:Int) else 48) else K.typ)=if K.typ=0 then(if A0V K.name then(53:Int) else 48) else K.typ
 rw[A6R]
theorem KOk.inH (k:KOk K L f):K.In where
 mn:=by have:=k.odd;unfold O9 at this;omega
 ms:=by have:=k.mom;unfold M1 at this;omega
 atn:=λe=>by have:=k.oddA e;unfold O9 at this;omega
 ctn:=λe=>by have:=k.oddC e;unfold O9 at this;omega
theorem KOk.ax (k:KOk K L f) (rv:Value): (K.hw F rv).ax=if K.hasA then K.ats+62135596800 else 0:=by
 show(if K.hasA then tx K.ats else 0)=_
 split
 ·rename_i e
  have:=k.ma e;unfold M1 at this;exact B3Z (by omega)
 ·rfl
theorem KOk.cx (k:KOk K L f) (rv:Value): (K.hw F rv).cx=if K.hasC then K.cts+62135596800 else 0:=by
 show(if K.hasC then tx K.cts else 0)=_
 split
 ·rename_i e
  have:=k.mc e;unfold M1 at this;exact B3Z (by omega)
 ·rfl
theorem B6p {h:IH} {f:Int} {L:List (List UInt8×List UInt8)} (g:h.Rng) (k:KOk h.eff L f) (o:O9 h.ms h.mn/\(h.hasA=true->O9 h.ats h.atn)/\(h.hasC=true->O9 h.cts h.ctn)):h.In where
 mn:=by have:=o.1;unfold O9 at this;omega
 ms:=by
  have hm:=k.mom;by_cases h0:h.fmt=0
  ·have e:h.eff=h.rnd:=if_pos h0
   rw[e] at hm;have e1:h.rnd.ms=if 500000000<h.mn then wrap64 (h.ms+1) else h.ms:=rfl
   unfold M1 at hm;rw[e1] at hm;have:=g.ms;split at hm
   ·unfold wrap64 at hm;omega
   ·omega
  ·have e:h.eff=h:=if_neg h0
   rw[e] at hm;unfold M1 at hm;omega
 atn:=λe=>by have:=o.2.1 e;unfold O9 at this;omega
 ctn:=λe=>by have:=o.2.2 e;unfold O9 at this;omega
def FOk (K:IH) (f F:Int):Prop:=(F=0/\K.mn=0/\K.hasA=false/\K.hasC=false)\/F=X9 f
theorem Z2 (hf:1<=f/\f<=3): (f=1/\X9 f=2)\/(f=2/\X9 f=4)\/(f=3/\X9 f=8):=by
 have:f=1\/f=2\/f=3:=by omega
 rcases this with rfl|rfl|rfl
 ·exact .inl ⟨rfl,rfl⟩
 ·exact .inr (.inl ⟨rfl,rfl⟩)
 ·exact .inr (.inr ⟨rfl,rfl⟩)
theorem KOk.hg (k:KOk K L f) (g:K.Rng) (hf:1<=f/\f<=3) (hF:FOk K f F) (rv:Value):HG (K.hw F rv) (E0 (λ_=>none) L) where
 inT:=by
  have hi:=k.inH;have hs:=k.sum;have e1: (K.hw F rv).aw=if K.hasA then K.atn else 0:=rfl
  have e2: (K.hw F rv).ax=if K.hasA then K.ats+62135596800 else 0:=k.ax rv
  have e3: (K.hw F rv).cw=if K.hasC then K.ctn else 0:=rfl
  have e4: (K.hw F rv).cx=if K.hasC then K.cts+62135596800 else 0:=k.cx rv
  refine {mode:=g.mode,uid:=g.uid,gid:=g.gid,size:=g.size,maj:=g.maj,mnr:=g.mnr,mw:=hi.mn,mx:= ?_,typ:= ?_,name:= ?_,link:= ?_,user:= ?_,group:= ?_,aw:= ?_,ax:= ?_,cw:= ?_,cx:= ?_}
  ·show _<=K.ms+62135596800-62135596800/\K.ms+62135596800-62135596800<=_
   have:=k.mom;unfold M1 at this;omega
  ·rw[A6t];have:=k.ty;omega
  ·show K.name.length<=_;omega
  ·show K.link.length<=_;omega
  ·show K.user.length<=_;omega
  ·show K.group.length<=_;omega
  ·rw[e1];split
   ·rename_i e;exact hi.atn e
   ·decide
  ·rw[e2];split
   ·rename_i e;have:=k.ma e;unfold M1 at this;omega
   ·decide
  ·rw[e3];split
   ·rename_i e;exact hi.ctn e
   ·decide
  ·rw[e4];split
   ·rename_i e;have:=k.mc e;unfold M1 at this;omega
   ·decide
 ty:=by rw[A6t];exact k.ty
 sl:=λe=>by
  rw[A6t];exact k.sl (by rw[<-A6R];exact e)
 size:=k.sz0
 xa:=rfl
 zn:=k.name.1
 zl:=k.link.1
 zu:=k.user.1
 zg:=k.group.1
 fmt:=by
  show F=0\/F=2\/F=4\/F=8
  rcases hF with h|h
  ·exact .inl h.1
  ·rcases Z2 hf with ⟨-,e⟩|⟨-,e⟩|⟨-,e⟩<;>(rw[h,e];decide)
 tz:=by
  have:=k.odd;unfold O9 at this;unfold E5;rw[decide_eq_false_iff_not];rintro⟨e1,e2⟩;have e1:K.mn=0:=e1;have e2:K.ms+62135596800=0:=e2;exact this.2.2 (by omega) e1
 mw:=λe=>by
  show K.mn=0
  rcases hF with h|h
  ·exact h.2.1
  ·have:=k.mom.2.2
   rcases Z2 hf with ⟨e1,-⟩|⟨-,e2⟩|⟨e1,-⟩
   ·exact this (by omega)
   ·exact absurd (show F=4 by rw[h,e2]) e
   ·exact this (by omega)
 ac:=λe=>by
  have e1: (K.hw F rv).aw=if K.hasA then K.atn else 0:=rfl
  have e3: (K.hw F rv).cw=if K.hasC then K.ctn else 0:=rfl
  rw[e1,e3];rcases hF with ⟨-,-,h1,h2⟩|h
  ·rw[h1,h2];exact⟨rfl,rfl⟩
  ·have AA:f≠2:=λe2=>by
    rcases Z2 hf with ⟨e1,-⟩|⟨-,e4⟩|⟨e1,-⟩
    ·omega
    ·exact absurd (show F=4 by rw[h,e4]) e
    ·omega
   constructor
   ·split
    ·rename_i ha;exact(k.ma ha).2.2 AA
    ·rfl
   ·split
    ·rename_i hc;exact(k.mc hc).2.2 AA
    ·rfl
 r0:=by
  cases hr:E0 (λ_=>none) L [] with
  |none=>rfl
  |some v=>
   rcases Z3 L _ _ _ hr with h|h
   ·obtain⟨-,-,-,-,-,-,c,t,e,-,-⟩:=k.recs _ h
    cases e
   ·cases h
 rne:=λq v hr=>by
  rcases Z3 L _ _ _ hr with h|h
  ·exact(k.recs _ h).2.2.1
  ·cases h
 rval:=λq v hr _=>by
  rcases Z3 L _ _ _ hr with h|h
  ·have hr:=k.recs _ h
   have hl:=A2K h;have hs:=k.sum;simp only at hl;refine⟨A4E hr,by omega,by omega,A2g (n:=7) (by decide) hr.2.2.2.2.2.1,A2g (n:=11) (by decide) hr.2.2.2.2.1⟩
  ·cases h
 sum:=λM hn hM=>by
  have hs:=k.sum
  have: (D7 M).length<=L1 L:=by
   refine B1I M L hn (λp hp=> ?_) (λp hp=> ?_)
   ·rcases Z3 L _ _ _ (hM p hp).1 with h|h
    ·exact⟨h,A4E (k.recs _ h)⟩
    ·cases h
   ·rcases Z3 L _ _ _ (hM p hp).1 with h|h
    ·have:=A2K h;simp only at this;omega
    ·cases h
  show(D7 M).length+K.name.length+K.link.length+K.user.length+K.group.length<=_
  omega
theorem KOk.st_u (k:KOk K L f) (hf:f=1) (R:KV) (rv:Value): ((K.hw F rv).st R).u=true:=by
 subst hf;obtain⟨u1,u2,u3,u4⟩:=k.us rfl
 have ea:E5 (K.hw F rv).aw (K.hw F rv).ax=true:=by
  have e1: (K.hw F rv).aw=if K.hasA then K.atn else 0:=rfl
  have e2: (K.hw F rv).ax=if K.hasA then K.ats+62135596800 else 0:=k.ax rv
  rw[e1,e2,u3];rfl
 have ec:E5 (K.hw F rv).cw (K.hw F rv).cx=true:=by
  have e1: (K.hw F rv).cw=if K.hasC then K.ctn else 0:=rfl
  have e2: (K.hw F rv).cx=if K.hasC then K.cts+62135596800 else 0:=k.cx rv
  rw[e1,e2,u4];rfl
 have h8: (8:Int)^ (12-1)=8589934592:=by decide
 have AJ:B8 12 (K.hw F rv).size=true:=by
  unfold B8;rw[decide_eq_true_eq,h8];exact⟨k.sz0,k.sz8 rfl⟩
 have AH:B8 12 ((K.hw F rv).mx-62135596800)=true:=by
  unfold B8;rw[decide_eq_true_eq,h8];show 0<=K.ms+62135596800-62135596800/\K.ms+62135596800-62135596800<_
  omega
 have AB:∀ {u:Bool} {s:List UInt8} {n:Nat} {key:List UInt8},D6 s=true/\s.length<=n->M6 u s n key=u:=λ{u s n key} h=>by
  unfold M6;rw[h.1,zV (by omega)];rfl
 have hn:=k.name.2 rfl
 have AI:M6 true K.name 100 H0=true:=by
  rcases k.spl rfl with h|⟨i,hi⟩
  ·exact AB ⟨hn.1,h⟩
  ·by_cases hl:K.name.length<=100
   ·exact AB ⟨hn.1,hl⟩
   ·unfold M6
    rw[B3P hn.1 (by omega) hi,hn.1,zY (show 100<K.name.length by omega)];rfl
 have AA:B8 8 (K.hw F rv).mode=true:=Z5 k.mode;have AG:B8 8 (K.hw F rv).uid=true:=Z5 k.uid;have AC:B8 8 (K.hw F rv).gid=true:=Z5 k.gid;have AD:B8 8 (K.hw F rv).maj=true:=Z5 k.maj;have AE:B8 8 (K.hw F rv).mnr=true:=Z5 k.mnr;rw[Go.Proofs.YtkanmkcojlefbaaGreatDoor.st_u,AA,AG,AC,AJ,AD,AE];have e0: (K.hw F rv).name=K.name:=rfl;have e1: (K.hw F rv).link=K.link:=rfl;have e2: (K.hw F rv).user=K.user:=rfl;have e3: (K.hw F rv).group=K.group:=rfl;rw[e0,e1,e2,e3,AI,AB (s:=K.link) (n:=100) (key:=I3) ⟨(k.link.2 rfl).1,by have:=(k.link.2 rfl).2;omega⟩,AB (s:=K.user) (k.user.2.1 rfl),AB (s:=K.group) (k.group.2.1 rfl)];unfold A0E;rw[ec,ea,AH];simp
theorem KOk.st_p (k:KOk K L f) (hf:f≠3) (R:KV) (rv:Value): ((K.hw F rv).st R).p=true:=by
 rw[Go.Proofs.YtkanmkcojlefbaaGreatDoor.st_p];have AA:B8 8 (K.hw F rv).mode=true:=A2m k.mode hf;have AB:B8 8 (K.hw F rv).maj=true:=A2m k.maj hf;have AC:B8 8 (K.hw F rv).mnr=true:=A2m k.mnr hf;rw[AA,AB,AC];rfl
theorem KOk.st_g (k:KOk K L f) (hf:f=3) (R:KV) (rv:Value): ((K.hw F rv).st R).g=true:=by
 subst hf
 have AB:∀ {u:Bool} {s:List UInt8} {n:Nat} {key:List UInt8},(0:UInt8)∉s->(s.length<=n\/key=H0\/key=I3)->I1 u s n key=u:=λ{u s n key} h1 h2=>by
  unfold I1;rw[zV h1];rcases h2 with h|h|h
  ·rw[zV (show¬n<s.length by omega)];rfl
  ·rw[zY h];simp
  ·rw[zY h];simp
 have AA:M2 8 (K.hw F rv).mode=true:=A0W k.mode;have AG:M2 8 (K.hw F rv).uid=true:=A0W k.uid;have AC:M2 8 (K.hw F rv).gid=true:=A0W k.gid;have AD:M2 8 (K.hw F rv).maj=true:=A0W k.maj;have AE:M2 8 (K.hw F rv).mnr=true:=A0W k.mnr;have AH:M2 12 (K.hw F rv).size=true:=by simp[M2]
 rw[Go.Proofs.YtkanmkcojlefbaaGreatDoor.st_g,AA,AG,AC,AH,AD,AE];have e0: (K.hw F rv).name=K.name:=rfl;have e1: (K.hw F rv).link=K.link:=rfl;have e2: (K.hw F rv).user=K.user:=rfl;have e3: (K.hw F rv).group=K.group:=rfl;rw[e0,e1,e2,e3,AB k.name.1 (.inr (.inl rfl)),AB k.link.1 (.inr (.inr rfl)),AB k.user.1 (.inl (k.user.2.2.1 rfl)),AB k.group.1 (.inl (k.group.2.2.1 rfl))];rfl
theorem KOk.up (k:KOk K L f) (hf:1<=f/\f<=3) (hF:FOk K f F) (AA:Bool) (hr:L=[]->AA=false) (R:KV) (rv:Value): (fOf (K.hw F rv) R AA).1=true\/(fOf (K.hw F rv) R AA).2.1=true\/(fOf (K.hw F rv) R AA).2.2=true:=by
 have hL:f≠2->AA=false:=λh=>hr (by
  cases L with
  |nil=>rfl
  |cons p L=>exact absurd (k.l2 (List.cons_ne_nil _ _)) h)
 have eF: (K.hw F rv).fmt=F:=rfl;unfold fOf S8;rw[eF];rcases hF with ⟨h,-⟩|h
 ·rw[if_pos h]
  by_cases h3:f=3
  ·right;right;rw[k.st_g h3,hL (by omega)];rfl
  ·right;left;exact k.st_p h3 R rv
 ·rcases Z2 hf with ⟨e1,e2⟩|⟨e1,e2⟩|⟨e1,e2⟩<;>rw[e2] at h<;>subst h
  ·left;rw[if_neg (by decide),if_pos rfl,k.st_u e1,hL (by omega)];rfl
  ·right;left;rw[if_neg (by decide),if_neg (by decide),if_pos rfl];exact k.st_p (by omega) R rv
  ·right;right;rw[if_neg (by decide),if_neg (by decide),if_neg (by decide),k.st_g e1,hL (by omega)];rfl
theorem KOk.same (k:KOk K L f) (f2:Int) (rv AA:Value) (W:IH) (hW:W= {K.sprom with fmt:=f}):A1b ({A0e ((K.hw F rv).rd f2) with recs:=AA}:IH) W:=by
 subst hW
 have hA:K.hasA=true->E5 K.atn (K.ats+62135596800)=false:=λe=>by
  have:=k.oddA e;unfold O9 at this;unfold E5;rw[decide_eq_false_iff_not];rintro⟨e1,e2⟩;exact this.2.2 (by omega) e1
 have hC:K.hasC=true->E5 K.ctn (K.cts+62135596800)=false:=λe=>by
  have:=k.oddC e;unfold O9 at this;unfold E5;rw[decide_eq_false_iff_not];rintro⟨e1,e2⟩;exact this.2.2 (by omega) e1
 have et:=A6t K F rv;have e1: (K.hw F rv).aw=if K.hasA then K.atn else 0:=rfl
 have e2: (K.hw F rv).ax=if K.hasA then K.ats+62135596800 else 0:=k.ax rv
 have e3: (K.hw F rv).cw=if K.hasC then K.ctn else 0:=rfl
 have e4: (K.hw F rv).cx=if K.hasC then K.cts+62135596800 else 0:=k.cx rv
 have em: (K.hw F rv).mx-62135596800=K.ms:=by show K.ms+62135596800-62135596800=K.ms;omega
 cases ha:K.hasA<;>cases hc:K.hasC
 all_goals
  rw[ha] at e1 e2;rw[hc] at e3 e4;simp only[Bool.false_eq_true,if_false,if_true] at e1 e2 e3 e4;refine⟨et.symm,rfl,rfl,rfl,rfl,rfl,rfl,rfl,rfl,em.symm,rfl,?_,?_,?_,?_,rfl,rfl⟩
 all_goals first
  |(show K.hasA= !E5 (K.hw F rv).aw (K.hw F rv).ax;rw[ha,e1,e2,hA ha];rfl)
  |(show K.hasC= !E5 (K.hw F rv).cw (K.hw F rv).cx;rw[hc,e3,e4,hC hc];rfl)
  |(show K.hasA= !E5 (K.hw F rv).aw (K.hw F rv).ax;rw[ha,e1,e2];rfl)
  |(show K.hasC= !E5 (K.hw F rv).cw (K.hw F rv).cx;rw[hc,e3,e4];rfl)
  |(intro e;exfalso;have e: (!E5 (K.hw F rv).aw (K.hw F rv).ax)=true:=e;rw[e1,e2] at e;exact absurd e (by decide))
  |(intro e;exfalso;have e: (!E5 (K.hw F rv).cw (K.hw F rv).cx)=true:=e;rw[e3,e4] at e;exact absurd e (by decide))
  |(intro _;show K.ats=(if E5 (K.hw F rv).aw (K.hw F rv).ax then 0 else(K.hw F rv).ax-62135596800)/\K.atn=(if E5 (K.hw F rv).aw (K.hw F rv).ax then 0 else(K.hw F rv).aw);rw[e1,e2,hA ha];simp;done)
  |(intro _;show K.cts=(if E5 (K.hw F rv).cw (K.hw F rv).cx then 0 else(K.hw F rv).cx-62135596800)/\K.ctn=(if E5 (K.hw F rv).cw (K.hw F rv).cx then 0 else(K.hw F rv).cw);rw[e3,e4,hC hc];simp;done)
theorem B2I {L2:List (List UInt8×List UInt8)} {q v:List UInt8} (hn: (L2.map (·.1)).Nodup) (hm: (q,v)∈L2):A0g L2 q=some v:=by
 unfold A0g;cases hf:L2.reverse.find? (λp=>p.1==q) with
 |none=>
  have:=List.find?_eq_none.1 hf (q,v) (List.mem_reverse.2 hm);simp at this
 |some p=>
  have h1:=List.find?_some hf;have h2:=List.mem_reverse.1 (List.mem_of_find?_eq_some hf);have h3:p.1=q:=by simpa using h1
  have:p=(q,v):=by
   clear hf h1;induction L2 with
   |nil=>cases h2
   |cons x L2 ih=>
    have AA:=List.nodup_cons.1 (by simpa using hn: (x.1::L2.map (·.1)).Nodup);rcases List.mem_cons.1 h2 with e2|h2
    ·rcases List.mem_cons.1 hm with e1|hm
     ·rw[e2,e1]
     ·exact absurd (List.mem_map.2 ⟨(q,v),hm,by rw[<-h3,e2]⟩) AA.1
    ·rcases List.mem_cons.1 hm with e1|hm
     ·exact absurd (List.mem_map.2 ⟨p,h2,by rw[h3,<-e1]⟩) AA.1
     ·exact ih AA.2 hm h2
  rw[this];rfl
theorem KOk.has (k:KOk K L f) (AA:Bool) (hr:AA=false->L=[]) (rv:Value) {R2:KV} {L2:List (List UInt8×List UInt8)} (h2:A8j R2 L2) (hR:R2=R3 ((K.hw F rv).st (E0 (λ_=>none) L)).m (E0 (λ_=>none) L) (K.hw F rv).typ\/(AA=false/\∀q,R2 q=none)):B1j L2 L:=by
 intro i hi hl;rcases hR with rfl|⟨h,-⟩
 ·have hm:=A8B L (λ_=>none) i hi hl
  have AC:=k.recs _ (List.getElem_mem hi);have AB:=A6M AC;refine B2I h2.nd (h2.all _ _ ?_);unfold R3;rw[A4d _ _ AB];simp only;rw[if_pos (.inr ⟨AB,A2g (n:=11) (by decide) AC.2.2.2.2.1⟩)];exact hm
 ·rw[hr h] at hi;cases hi
end
end Go.Proofs.YtkanmkcojlefbaaGreatDoor
namespace Go.Proofs.YtkanmkcojlefbaaGreatDoor
open Go.ChangeShapes Go.WideShapes Go.ChangeAt Go.RowKit Go.Maps
theorem B6L:Tryz.prog.underlying 194=some (.map 9 4):=by kernel_rfl
theorem A7f {H:Type} {enc:TypeId×Value->H} {P:Program} {base:Nat} {held:Bool} {e:TypeId} (he:P.underlying e=some .bool) {W:World} {sp:Nat->Bool} {m:Nat} {v:Value} {z:DataW H×List MemPlace} (h:WideElems.elemAt enc P W base sp held m e v=some z):plainElem P e v=some z:=by
 unfold WideElems.elemAt at h;split at h
 ·rename_i hf
  obtain⟨b,hc,rfl⟩:=DataW.trod_bool he h;cases v<;>simp[Value.formed,he,Value.cells] at hf hc
  subst hc;simp[plainElem,he]
 ·cases h
theorem A9E (k:List UInt8): (Rows.laid_tapearchives_pub_gotar_basicKeys (H:=Unit)).atKey (.string k) (.lit (.bool false))= .lit (.bool (decide (k∈F6))):=by
 by_cases hk:k∈F6
 ·rw[zY hk]
  simp only[F6,List.mem_cons,List.not_mem_nil,or_false] at hk;rcases hk with rfl|rfl|rfl|rfl|rfl|rfl|rfl|rfl|rfl|rfl<;>rfl
 ·rw[zV hk]
  have h:∀q∈F6,(q==k)=false:=λq hq=>by
   rw[zG];rintro rfl;exact hk hq
  have h1:=h H0 (by decide);have h2:=h I3 (by decide);have h3:=h N9 (by decide);have h4:=h V2 (by decide);have h5:=h V1 (by decide);have h6:=h F8 (by decide);have h7:=h F7 (by decide);have h8:=h H6 (by decide);have h9:=h J5 (by decide);have h0:=h J6 (by decide);simp only[H0,I3,N9,V2,V1,F8,F7,H6,J5,J6] at h1 h2 h3 h4 h5 h6 h7 h8 h9 h0;simp only[Rows.laid_tapearchives_pub_gotar_basicKeys,DataW.atKey,List.find?_cons,List.find?_nil,Lit.sameKey,h1,h2,h3,h4,h5,h6,h7,h8,h9,h0]
theorem B0l {W:World} {r:List (String×DataW Unit)} (h:laidMet Tryz.prog (("tapearchives/pub/gotar.basicKeys",Rows.laid_tapearchives_pub_gotar_basicKeys)::r) W):∃mb,mb<W.heap.size/\W.cell? ⟨7,0,none⟩=some (.map (some mb))/\A2Z W mb:=by
 obtain⟨g,t,cs,AB,p,hg,ht,hv,hd⟩:=Lib.laidMet.reads h (List.mem_cons_self ..);have eg:Tryz.prog.globalNamed "tapearchives/pub/gotar.basicKeys" =some 7:=by kernel_rfl
 obtain rfl:=Option.some.inj (eg.symm.trans hg);have et: (Tryz.prog.globals[7]?).map (·.type)=some 194:=by kernel_rfl
 obtain rfl:=Option.some.inj (et.symm.trans ht);rcases WideElems.open_map B6L hd with ⟨-,hx⟩|⟨b,es,AA,n,-,AC,hb,-,F,hx⟩
 ·cases hx
 ·have ho:=World.ownsMap_of_fit (R:=plainElem Tryz.prog 4) hb F (λx _ z hz=>A7f Tryz.underlying4 hz)
  refine⟨b,A8 hb,?_,_,es.size,ho,λk=> ?_⟩
  ·have:=World.var?_cell hg hv 0
   rw[this]
   obtain rfl:cs=#[.map (some b)]:=by
    apply Array.toList_inj.1;rw[AC]
   rfl
  ·have hD:=(Prod.mk.inj hx).1
   rw[<-hD];exact A9E k
theorem A8v {W:World} (h:laidMet Tryz.prog Rows.fnFieldsComeFirstRow.laid W):∃E,Gl W.heap.size E W:=by
 have t1:laidMet Tryz.prog (("math/bits.deBruijn64tab",Lib.tabData .u8 [0,1,56,2,57,49,28,3,61,58,42,50,38,29,17,4,62,47,59,36,45,43,51,22,53,39,33,30,24,18,12,5,63,55,48,27,60,41,37,16,46,35,44,21,52,32,23,11,54,26,40,15,34,20,31,10,25,14,19,9,13,8,7,6])::_) W:=h.tail;have t2:laidMet Tryz.prog (("internal/strconv.uint64pow10",Lib.tabData .u64 Lib.pow10Tab)::_) W:=h.tail.tail;have t7:laidMet Tryz.prog (("io.EOF",Rows.laid_io_EOF)::_) W:=h.tail.tail.tail.tail.tail.tail.tail;have tk:laidMet Tryz.prog (("tapearchives/pub/gotar.basicKeys",Rows.laid_tapearchives_pub_gotar_basicKeys)::_) W:=t7.tail.tail.tail.tail.tail.tail.tail.tail.tail;obtain⟨a0,h0⟩:=Z4 t7 (by kernel_rfl) (by kernel_rfl);obtain⟨a5,h5⟩:=Z4 t7.tail (by kernel_rfl) (by kernel_rfl);obtain⟨AB,AA⟩:=Z4 t7.tail.tail (by kernel_rfl) (by kernel_rfl);obtain⟨a1,h1⟩:=Z4 t7.tail.tail.tail (by kernel_rfl) (by kernel_rfl);obtain⟨a2,h2⟩:=Z4 t7.tail.tail.tail.tail (by kernel_rfl) (by kernel_rfl);obtain⟨a3,h3⟩:=Z4 t7.tail.tail.tail.tail.tail (by kernel_rfl) (by kernel_rfl);obtain⟨a4,h4⟩:=Z4 t7.tail.tail.tail.tail.tail.tail (by kernel_rfl) (by kernel_rfl);obtain⟨a6,h6⟩:=Z4 t7.tail.tail.tail.tail.tail.tail.tail (by kernel_rfl) (by kernel_rfl);obtain⟨mb,k1,k2,k3⟩:=B0l tk;have tb:=Lib.tabIs_of_head (g:=15) (by kernel_rfl) (t:=382) (by kernel_rfl) (e:=5) (n:=64) Tryz.underlying382 Tryz.underlying5 (by kernel_rfl) (by kernel_rfl) t1
 have tp:=Lib.tabIs_of_head (g:=10) (by kernel_rfl) (t:=335) (by kernel_rfl) (e:=124) (n:=20) Tryz.underlying335 Tryz.underlying124 (by kernel_rfl) (by kernel_rfl) t2;refine⟨λi=>match i with|0=>a0|1=>a1|2=>a2|3=>a3|4=>a4|5=>a5|_=>a6,zB _,zC AA,λi hi=> ?_,?_,tp,mb,k1,k2,k3⟩
 ·match i,hi with
  |0,_=>exact h0
  |1,_=>exact h1
  |2,_=>exact h2
  |3,_=>exact h3
  |4,_=>exact h4
  |5,_=>exact h5
  |6,_=>exact h6
 ·exact tb.cell (g:=15) (by kernel_rfl) 7 (by decide)
end Go.Proofs.YtkanmkcojlefbaaGreatDoor
namespace Go.Proofs.YtkanmkcojlefbaaGreatDoor
open Go.ChangeShapes Go.WideShapes Go.ChangeAt Go.RowKit
set_option maxRecDepth 100000
section
variable {H:Type} {enc:TypeId×Value->H} {w:World} {base:Nat} {sp:Nat->Bool} {held:Bool}
theorem B0V {d:DataW H} {l:List (DataW H)} (h:d∈l):Rows.uptoBulk d<=Rows.uptoBulkAll l:=by
 induction l with
 |nil=>cases h
 |cons x r ih=>
  simp only[Rows.uptoBulkAll];cases List.mem_cons.1 h with
  |inl e=>subst e;omega
  |inr e=>have:=ih e;omega
theorem B0W:∀ (L:List (List UInt8×List UInt8)) (AA:List (DataW H×List MemPlace)),AA.length=L.length->(∀ (j:Nat) (hj:j<L.length) (y:DataW H×List MemPlace),AA[j]?=some y->L[j].1.length+L[j].2.length+3<=Rows.uptoBulk y.1)->L1 L<=8*Rows.uptoBulkAll (AA.map (·.1)):=by
 intro L;induction L with
 |nil=>intro _ _ _;exact zW _
 |cons p L ih=>
  intro AA hl h;cases AA with
  |nil=>cases hl
  |cons e AA=>
   have h0:=h 0 (by simp) e rfl;have h1:=ih AA (by simpa using hl) (λj hj y hy=>h (j+1) (by simp;omega) y hy);simp only[List.map_cons,Rows.uptoBulkAll,L1,List.getElem_cons_zero] at h0 h1⊢;omega
theorem B3R (s:ByteArray):Value.string s=str s.data.toList:=by cases s;rfl
theorem A1G {AA:Nat} {cs:List Value} {x:DataW H×List MemPlace} (h:DataW.trod enc Tryz.prog w base sp held AA 9 cs=some x):∃l:List UInt8,cs=[str l]/\x=(.lit (.string l),[])/\l.length<=9223372036854775807:=by
 obtain⟨s,hc,hx,hl⟩:=DataW.trod_string Tryz.underlying9 h;refine⟨s.data.toList,by rw[hc,B3R],hx,?_⟩;have:s.data.toList.length=s.size:=Array.length_toList;rw[this];exact hl
theorem B6X {a:Addr} {c1:List Value} (h:w.cells? base a 1=some c1):∃c,c1=[c]/\w.cell? a=some c:=by
 unfold World.cells? at h;split at h
 ·have e0:a.add 0=a:=by simp[Addr.add]
  simp only[List.range_succ,List.range_zero,List.nil_append,List.mapM_cons,List.mapM_nil,e0] at h;cases AA:w.cell? a with
  |none=>simp[AA] at h
  |some c=>simp[AA] at h;exact⟨c,h.symm,rfl⟩
 ·cases h
theorem B0a {a:Addr} {c1:List Value} (h:w.cells? base a 2=some c1):∃c d,c1=[c,d]/\w.cell? a=some c/\w.cell? (a.add 1)=some d:=by
 unfold World.cells? at h;split at h
 ·have e0:a.add 0=a:=by simp[Addr.add]
  simp only[List.range_succ,List.range_zero,List.nil_append,List.cons_append,List.mapM_cons,List.mapM_nil,e0] at h;cases AA:w.cell? a with
  |none=>simp[AA] at h
  |some c=>
   cases AB:w.cell? (a.add 1) with
   |none=>simp[AA,AB] at h
   |some d=>simp[AA,AB] at h;exact⟨c,d,h.symm,rfl,rfl⟩
 ·cases h
theorem B1T {a:Addr} {v:Value} (h:w.cell? a=some v):a=⟨a.block,a.off,none⟩:=by
 obtain⟨b,o,sp⟩:=a;cases sp with
 |none=>rfl
 |some s=>unfold World.cell? at h;split at h<;>simp_all
theorem A0v:Tryz.prog.cellsOf 9=1:=by kernel_rfl
theorem B0Z:Tryz.prog.cellsOf 59=2:=by kernel_rfl
theorem A0u:Tryz.prog.cellsOf 2=1:=by kernel_rfl
theorem A4p:Tryz.prog.cellsOf 3=1:=by kernel_rfl
theorem A7c:Tryz.prog.cellsOf 4=1:=by kernel_rfl
theorem B2B:Tryz.prog.cellsOf 5=1:=by kernel_rfl
theorem A3Y:Tryz.prog.cellsOf 23=2:=by kernel_rfl
theorem B0X:Tryz.prog.cellsOf 24=1:=by kernel_rfl
theorem B0Y:Tryz.prog.cellsOf 26=21:=by kernel_rfl
theorem fld {P:Program} {n t o m:Nat} {cs:List Value} {y:Option (DataW H×List MemPlace)} {r:List Value} (h:DataW.trod enc P w base sp held n t ((cs.drop o).take (P.cellsOf t))=y) (hm:P.cellsOf t=m) (hr: (cs.drop o).take m=r):DataW.trod enc P w base sp held n t r=y:=by
 rw[hm,hr] at h;exact h
theorem A3r {AA:Nat} {a b:Value} {x:DataW H×List MemPlace} (h:DataW.trod enc Tryz.prog w base sp held AA 23 [a,b]=some x):∃s n:Int,a= .int .i64 s/\b= .int .i64 n/\(-9223372036854775808<=s/\s<=9223372036854775807)/\(-9223372036854775808<=n/\n<=9223372036854775807):=by
 obtain⟨xs,n,rfl,-,-,hl,hf⟩:=DataW.trod_struct Tryz.underlying23 h;have h0:=hf 0 _ rfl;have h1:=hf 1 _ rfl;have hl:xs.length=2:=hl
 obtain⟨x0,x1,rfl⟩:∃x0 x1,xs=[x0,x1]:=by
  match xs,hl with
  | [x0,x1],_=>exact⟨_,_,rfl⟩
 obtain⟨s,e0,-,w0⟩:=DataW.trod_int Tryz.underlying2 (fld h0 A0u rfl);obtain⟨m,e1,-,w1⟩:=DataW.trod_int Tryz.underlying2 (fld h1 A0u rfl);have e0: [a]=[Value.int .i64 s]:=e0;have e1: [b]=[Value.int .i64 m]:=e1;exact⟨s,m,(List.cons.inj e0).1,(List.cons.inj e1).1,bounds_i64 w0,bounds_i64 w1⟩
theorem B1c {AA:Nat} {a b:Value} {x:DataW H×List MemPlace} (h:DataW.trod enc Tryz.prog w base sp held AA 59 [a,b]=some x):∃k v:List UInt8,a=str k/\b=str v/\k.length+v.length+3<=Rows.uptoBulk x.1:=by
 obtain⟨xs,n,rfl,rfl,-,hl,hf⟩:=DataW.trod_struct Tryz.underlying59 h;have h0:=hf 0 _ rfl;have h1:=hf 1 _ rfl;have hl:xs.length=2:=hl
 obtain⟨x0,x1,rfl⟩:∃x0 x1,xs=[x0,x1]:=by
  match xs,hl with
  | [x0,x1],_=>exact⟨_,_,rfl⟩
 obtain⟨k,e0,rfl,-⟩:=A1G (fld h0 A0v rfl);obtain⟨v,e1,rfl,-⟩:=A1G (fld h1 A0v rfl);have e0: [a]=[str k]:=e0;have e1: [b]=[str v]:=e1;refine⟨k,v,(List.cons.inj e0).1,(List.cons.inj e1).1,?_⟩;simp only[List.map_cons,List.map_nil,Rows.uptoBulk,Rows.uptoBulkAll];omega
theorem B8e {α:Type} {p:Nat->α->Prop} (n:Nat) (h:∀j,j<n->∃x,p j x):∃l:List α,l.length=n/\∀ (j:Nat) (hj:j<l.length),p j l[j]:=by
 induction n with
 |zero=>exact⟨[],rfl,λj hj=>absurd hj (Nat.not_lt_zero _)⟩
 |succ n ih=>
  obtain⟨l,hl,hp⟩:=ih (λj hj=>h j (by omega));obtain⟨x,hx⟩:=h n (by omega);refine⟨l++[x],by simp[hl],λj hj=> ?_⟩;rw[zH,List.length_singleton,hl] at hj;by_cases AA:j<l.length
  ·rw[List.getElem_append_left AA];exact hp j AA
  ·have:j=n:=by omega
   subst this;rw[List.getElem_append_right (by omega)];simpa using hx
theorem B0z {AB:Nat} {v:Value} {x:DataW H×List MemPlace} (h:DataW.trod enc Tryz.prog w base sp held AB 24 [v]=some x):∃L,N5 w v L/\L1 L<=8*Rows.uptoBulk x.1:=by
 rcases DataW.trod_slice Tryz.underlying24 h with ⟨hc,-⟩|⟨a,len,cap,AA,rest,n,-,hc,rfl,-,hl,AH,AL,AI,-⟩
 ·have hc:v= .slice none 0 0:=(List.cons.inj hc).1
  exact⟨[],⟨none,0,hc,λj hj=>absurd hj (Nat.not_lt_zero _)⟩,zW _⟩
 ·have hc:v= .slice (some a) len cap:=(List.cons.inj hc).1
  have AJ:∀j,j<len->AA[j]?≠none:=λj hj e=>by rw[List.getElem?_eq_none_iff] at e;omega
  have AD:∀j,j<len->∃p:List UInt8×List UInt8,w.cell? (a.add (j*2))=some (str p.1)/\w.cell? ((a.add (j*2)).add 1)=some (str p.2)/\∀y,AA[j]?=some y->p.1.length+p.2.length+3<=Rows.uptoBulk y.1:=λj hj=>by
   have h1:=AI j hj;rw[B0Z] at h1;cases AC:w.cells? base (a.add (j*2)) 2 with
   |none=>rw[AC] at h1;exact absurd h1.symm (by rw[Option.bind_none];exact λe=>(AJ j hj) e)
   |some cs=>
    obtain⟨c,d,rfl,q1,q2⟩:=B0a AC;rw[AC,Option.bind_some] at h1;obtain⟨y,hy⟩:∃y,AA[j]?=some y:=⟨_,zF (by omega)⟩;rw[hy] at h1;obtain⟨k,v,rfl,rfl,AE⟩:=B1c h1;exact⟨(k,v),q1,q2,λy' AG=>by rw[hy] at AG;cases AG;exact AE⟩
  obtain⟨L,hL,hp⟩:=B8e (p:=λj (p:List UInt8×List UInt8)=>w.cell? (a.add (j*2))=some (str p.1)/\w.cell? ((a.add (j*2)).add 1)=some (str p.2)/\∀y,AA[j]?=some y->p.1.length+p.2.length+3<=Rows.uptoBulk y.1) len AD;have AE:=B0W L AA (by omega) (λj hj y hy=>(hp j hj).2.2 y hy);refine⟨L,⟨some a,cap,by rw[hc,hL],λj hj=> ?_⟩,by simp only[Rows.uptoBulk];omega⟩;obtain⟨h1,h2,-⟩:=hp j hj
  have ha:a=⟨a.block,a.off,none⟩:=by
   have h0:=(hp 0 (by omega)).1;have e:a.add (0*2)=a:=by simp[Addr.add]
   rw[e] at h0;exact B1T h0
  have e1:a.add (j*2)=⟨a.block,a.off+j*2,none⟩:=by rw[ha];exact Lib.addr_add _ _ _
  have e2: (a.add (j*2)).add 1=⟨a.block,a.off+j*2+1,none⟩:=by rw[e1];exact Lib.addr_add _ _ _
  rw[e2] at h2;rw[e1] at h1;exact⟨a.block,a.off,congrArg some ha,zC (a:=⟨a.block,a.off+j*2,none⟩) h1,h1,h2⟩
theorem B2v {AD:Nat} {cs:List Value} {x:DataW H×List MemPlace} (h:DataW.trod enc Tryz.prog w base sp held AD 26 cs=some x):∃ (hd:IH) (L:List (List UInt8×List UInt8)),cs=hd.cells/\hd.Rng/\N5 w hd.recs L/\hd.name.length+hd.link.length+hd.user.length+hd.group.length+L1 L<=12*Rows.uptoBulk x.1:=by
 obtain⟨xs,n,rfl,rfl,AB,hl,hf⟩:=DataW.trod_struct Tryz.underlying26 h;rw[B0Y] at AB;have hl:xs.length=18:=hl
 obtain⟨c0,c1,c2,c3,c4,c5,c6,c7,c8,c9,aB,aD,aF,aG,aH,aI,aJ,aK,aL,aA,c20,rfl⟩:∃c0 c1 c2 c3 c4 c5 c6 c7 c8 c9 aB aD aF aG aH aI aJ aK aL aA c20,cs=[c0,c1,c2,c3,c4,c5,c6,c7,c8,c9,aB,aD,aF,aG,aH,aI,aJ,aK,aL,aA,c20]:=by
  match cs,AB with
  | [c0,c1,c2,c3,c4,c5,c6,c7,c8,c9,aB,aD,aF,aG,aH,aI,aJ,aK,aL,aA,c20],_=>exact⟨_,_,_,_,_,_,_,_,_,_,_,_,_,_,_,_,_,_,_,_,_,rfl⟩
 have AA:∀ (i:Nat) (y:DataW H×List MemPlace),xs[i]?=some y->Rows.uptoBulk y.1<=Rows.uptoBulkAll (xs.map (·.1)):=λi y hy=>B0V (List.mem_map.2 ⟨y,List.mem_of_getElem? hy,rfl⟩);have hx:∀i,i<18->∃y,xs[i]?=some y:=λi hi=>⟨_,zF (by omega)⟩;obtain⟨y0,Ag⟩:=hx 0 (by omega);have h0:=fld (r:=[c0]) ((hf 0 _ rfl).trans Ag) B2B rfl;obtain⟨v0,e0,-,w0⟩:=DataW.trod_int Tryz.underlying5 h0;obtain rfl:=(List.cons.inj e0).1;obtain⟨y1,AO⟩:=hx 1 (by omega);have h1:=fld (r:=[c1]) ((hf 1 _ rfl).trans AO) A0v rfl;obtain⟨v1,e1,r1,-⟩:=A1G h1;have b1:=AA 1 _ AO;rw[r1] at b1;obtain rfl:=(List.cons.inj e1).1;obtain⟨y2,AP⟩:=hx 2 (by omega);have h2:=fld (r:=[c2]) ((hf 2 _ rfl).trans AP) A0v rfl;obtain⟨v2,e2,r2,-⟩:=A1G h2;have b2:=AA 2 _ AP;rw[r2] at b2;obtain rfl:=(List.cons.inj e2).1;obtain⟨y3,Ah⟩:=hx 3 (by omega);have h3:=fld (r:=[c3]) ((hf 3 _ rfl).trans Ah) A0u rfl;obtain⟨v3,e3,-,w3⟩:=DataW.trod_int Tryz.underlying2 h3;obtain rfl:=(List.cons.inj e3).1;obtain⟨y4,Ai⟩:=hx 4 (by omega);have h4:=fld (r:=[c4]) ((hf 4 _ rfl).trans Ai) A0u rfl;obtain⟨v4,e4,-,w4⟩:=DataW.trod_int Tryz.underlying2 h4;obtain rfl:=(List.cons.inj e4).1;obtain⟨y5,Aj⟩:=hx 5 (by omega);have h5:=fld (r:=[c5]) ((hf 5 _ rfl).trans Aj) A4p rfl;obtain⟨v5,e5,-,w5⟩:=DataW.trod_int Tryz.underlying3 h5;obtain rfl:=(List.cons.inj e5).1;obtain⟨y6,Ak⟩:=hx 6 (by omega);have h6:=fld (r:=[c6]) ((hf 6 _ rfl).trans Ak) A4p rfl;obtain⟨v6,e6,-,w6⟩:=DataW.trod_int Tryz.underlying3 h6;obtain rfl:=(List.cons.inj e6).1
 obtain⟨y7,AQ⟩:=hx 7 (by omega);have h7:=fld (r:=[c7]) ((hf 7 _ rfl).trans AQ) A0v rfl;obtain⟨v7,e7,r7,-⟩:=A1G h7;have b7:=AA 7 _ AQ;rw[r7] at b7;obtain rfl:=(List.cons.inj e7).1;obtain⟨y8,AR⟩:=hx 8 (by omega);have h8:=fld (r:=[c8]) ((hf 8 _ rfl).trans AR) A0v rfl;obtain⟨v8,e8,r8,-⟩:=A1G h8;have b8:=AA 8 _ AR;rw[r8] at b8;obtain rfl:=(List.cons.inj e8).1;obtain⟨y9,Al⟩:=hx 9 (by omega);have h9:=fld (r:=[c9,aB]) ((hf 9 _ rfl).trans Al) A3Y rfl;obtain⟨v9,u9,rfl,rfl,w9,-⟩:=A3r h9;obtain⟨BA,AE⟩:=hx 10 (by omega);have AY:=fld (r:=[aD]) ((hf 10 _ rfl).trans AE) A7c rfl;obtain⟨Ao,AT,-⟩:=DataW.trod_bool Tryz.underlying4 AY;obtain rfl:=(List.cons.inj AT).1;obtain⟨BC,AG⟩:=hx 11 (by omega);have AZ:=fld (r:=[aF,aG]) ((hf 11 _ rfl).trans AG) A3Y rfl;obtain⟨Ap,Am,rfl,rfl,-,-⟩:=A3r AZ;obtain⟨BD,AH⟩:=hx 12 (by omega);have Aa:=fld (r:=[aH]) ((hf 12 _ rfl).trans AH) A7c rfl;obtain⟨Aq,AU,-⟩:=DataW.trod_bool Tryz.underlying4 Aa;obtain rfl:=(List.cons.inj AU).1;obtain⟨BE,AI⟩:=hx 13 (by omega);have Ab:=fld (r:=[aI,aJ]) ((hf 13 _ rfl).trans AI) A3Y rfl;obtain⟨Ar,An,rfl,rfl,-,-⟩:=A3r Ab;obtain⟨BF,AJ⟩:=hx 14 (by omega);have Ac:=fld (r:=[aK]) ((hf 14 _ rfl).trans AJ) A0u rfl;obtain⟨As,AV,-,Aw⟩:=DataW.trod_int Tryz.underlying2 Ac;obtain rfl:=(List.cons.inj AV).1;obtain⟨BH,AL⟩:=hx 15 (by omega);have Ad:=fld (r:=[aL]) ((hf 15 _ rfl).trans AL) A0u rfl;obtain⟨Au,AW,-,Ax⟩:=DataW.trod_int Tryz.underlying2 Ad;obtain rfl:=(List.cons.inj AW).1;obtain⟨BI,AC⟩:=hx 16 (by omega)
 have Ae:=fld (r:=[aA]) ((hf 16 _ rfl).trans AC) B0X rfl;obtain⟨L,hL,Ay⟩:=B0z Ae;have AS:=AA 16 _ AC;obtain⟨BJ,AM⟩:=hx 17 (by omega);have Af:=fld (r:=[c20]) ((hf 17 _ rfl).trans AM) A4p rfl;obtain⟨Av,AX,-,Az⟩:=DataW.trod_int Tryz.underlying3 Af;obtain rfl:=(List.cons.inj AX).1;refine⟨⟨v0,v1,v2,v3,v4,v5,v6,v7,v8,v9,u9,Ao,Ap,Am,Aq,Ar,An,As,Au,aA,Av⟩,L,rfl,⟨?_,bounds_i64 w3,bounds_i64 w4,bounds_i64 w5,bounds_i64 w6,bounds_i64 Aw,bounds_i64 Ax,w9⟩,hL,?_⟩
 ·have:=bounds_u8 w0
  exact⟨this.1,by show v0<256;omega⟩
 ·simp only[Rows.uptoBulk] at b1 b2 b7 b8 AS⊢
  omega
end
end Go.Proofs.YtkanmkcojlefbaaGreatDoor
namespace Go.Proofs.YtkanmkcojlefbaaGreatDoor
open Go.RowKit
theorem B3x (w:World) (a:Addr) (h:w.cell? ⟨0,0,none⟩=some (I7 a)):Calls Tryz.prog 33 #[I7 a] w λe w'=>e= .returned (.int .i64 1)/\w=w':=by
 have e0:=A2y w a;go_enter Tryz.func33,Tryz.ntmps33
 go_wp2
 go_ret
 exact⟨rfl,rfl⟩
end Go.Proofs.YtkanmkcojlefbaaGreatDoor
