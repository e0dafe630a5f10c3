/-
  Part of the proof; holds the texts Ih1, L3p, LGl.
-/
import Derived.Test.YtkanmkcojlefbaaGreatDoorM46
import Derived.Test.YtkanmkcojlefbaaGreatDoorM47
import Derived.Lib.LaidU8
set_option maxHeartbeats 4000000
set_option maxRecDepth 100000
set_option linter.unusedSimpArgs false
set_option linter.unusedVariables false
namespace Go.Proofs.YtkanmkcojlefbaaGreatDoor
open Go.RowKit
theorem A1b.recs {a b:IH} (h:A1b a b) (rv:Value):A1b {a with recs:=rv} b:=by
 cases h;constructor<;>assumption
theorem A3E {g:Nat} {h:IH} {w:World} (hs:w.heap[g]?=some (.cells h.cells.toArray 26 (0,0))): (loadVar 26 ⟨g,0,none⟩).run Tryz.prog w= .ok (.agg h.cells.toArray) w:=
 run_loadVar_row (P:=Tryz.prog) w g 26 26 h.cells.toArray (0,0) _ hs Tryz.underlying26 rfl (by kernel_rfl)
theorem B2Z (x W:IH) (L M:List (List UInt8×List UInt8)) (q:Option Addr) (cc:Nat) (w:World) (hx:N5 w x.recs L) (Am:L.length<=4294967296) (Aa:W.recs= .slice q M.length cc) (hM:N5 w W.recs M) (AD:A7M W.recs) (Ak:M.length<4611686018427387904)
  (ht:W.typ≠103) (hs:A1b x W) (hO:B1j L M):Calls Tryz.prog 12 #[.agg x.cells.toArray,.agg W.scells.toArray] w λe w'=>e= .returned (.bool true)/\Below w.heap.size w w':=by
 have HS:=A0 hs;have HO:=A0 hO;have HX:=A0 hx;have HM:=A0 hM;have HC:=A0 AD;have AH:=A0 Aa;have An: (W.typ==103)=false:=by simpa using ht
 clear hs hO hx hM AD Aa ht;go_enter Tryz.func12,Tryz.ntmps12
 go_upto_region 1 with fail
 obtain⟨wA,AG⟩:∃wA,wA=(w.alloc (.cells x.cells.toArray 26)).alloc (.cells W.scells.toArray 31):=⟨_,rfl⟩;rw[<-AG];have s1: (w.alloc (.cells x.cells.toArray 26)).heap.size=w.heap.size+1:=Array.size_push ..;have AZ:wA.heap[w.heap.size]?=some (.cells x.cells.toArray 26 (0,0)):=by rw[AG];exact(Below.heap_alloc _ _ _ (by omega)).trans (heap_alloc_new w _)
 have AL:wA.heap[w.heap.size+1]?=some (.cells W.scells.toArray 31 (0,0)):=by rw[AG,<-s1];exact heap_alloc_new _ _
 have AO:Below w.heap.size w wA:=by rw[AG];exact((Below.refl _ w).alloc (Nat.le_refl _) _).alloc (by omega) _
 have AT:=A0 (A3E AZ);have HP:=A0 (A6T x L wA (N5.up HX.out AO) Am);have H1:Hid (SB (w.heap.size+1) W wA):=A0 AL;have HB:=A0 AO;have Al:=A8 AL;clear AZ AL AO AG s1;go_wp2_with (first|(refine D3 rfl 26 _ rfl ⟨w.heap.size,0,none⟩ rfl _ AT.out ?_)|fail)
 refine HP.out.mono ?_;rintro e w1 ⟨rv,rfl,Ae,⟨AE,-⟩,AQ⟩;have AM:=HB.out.trans (AQ.mono HB.out.size);have AP:=H1.out.below AQ Al;have hz:=heap_alloc_new w1 (.cells #[.int .u8 0,.string {data:=#[]},.string {data:=#[]},.int .i64 0,.int .i64 0,.int .i64 0,.int .i64 0,.string {data:=#[]},.string {data:=#[]},.int .i64 0,.int .i64 0,.bool false,.bool false,.int .i64 0,.int .i64 0,.int .i64 0,.int .i64 0,.int .i64 0,.int .i64 0,.slice none 0 0,.int .i64 0] 31);have Ac:Below w1.heap.size w1 (w1.alloc (.cells #[.int .u8 0,.string {data:=#[]},.string {data:=#[]},.int .i64 0,.int .i64 0,.int .i64 0,.int .i64 0,.string {data:=#[]},.string {data:=#[]},.int .i64 0,.int .i64 0,.bool false,.bool false,.int .i64 0,.int .i64 0,.int .i64 0,.int .i64 0,.int .i64 0,.int .i64 0,.slice none 0 0,.int .i64 0] 31)):=(Below.refl _ w1).alloc (Nat.le_refl _) _;obtain⟨X,hX⟩:∃X:IH,X= {x with recs:=rv}:=⟨_,rfl⟩;rw[<-hX];obtain⟨w2,Af,Ad,-,AC,-⟩:=A1X X (by rw[hX];exact AE) rfl hz;have AR:Below w1.heap.size w1 w2:=AC _ _ Ac (Nat.le_refl _);have AY:=A0 Af;have AI:Hid (SB w1.heap.size X w2):=A0 Ad;have AA:=A0 (AP.below AR (A8 AP));have AS:=A0 (AM.trans (AR.mono AM.size));have AW:=A0 (N5.up Ae AR);have HE:Hid (A1b X W):=A0 (by rw[hX];exact HS.out.recs rv);have Aj:Hid (X.recs=rv):=A0 (by rw[hX]);clear Ae AE AQ AM AP hz Ac Af Ad AC hX HP AT H1 HB;have AX:=A0 (B3O X W w2 HE.out);have AV:=A0 AI.out.load;have AU:=A0 AA.out.load;have y0:=AA.out.cell 0 (.int .u8 W.typ) rfl
 go_wp2_with (first|(refine E6 rfl 31 _ _ rfl ⟨w1.heap.size,0,none⟩ rfl _ rfl w2 AY.out ?_)|(refine D3 rfl 31 _ rfl ⟨w1.heap.size,0,none⟩ rfl _ AV.out ?_)|(refine D3 rfl 31 _ rfl ⟨w.heap.size+1,0,none⟩ rfl _ AU.out ?_)|fail)
 refine AX.out.mono ?_;rintro e w3 ⟨rfl,AB⟩;have Ai:=A0 (AI.out.below AB (A8 AI.out));have Ah:=A0 (AA.out.below AB (A8 AA.out));have AJ:=A0 (AS.out.trans (AB.mono AS.out.size));have z1:=Ai.out.cell 19 rv (by rw[<-Aj.out];rfl);have z2:=Ah.out.cell 19 (.slice q M.length cc) (by rw[<-AH.out];rfl);have HH:=A0 (B4d rv L M q cc w3 (N5.up AW.out AB) (by have:=N5.up HM.out AJ.out;rwa [AH.out] at this) ((HC.out _ _ _ AH.out).1) (by omega) Ak ((HC.out _ _ _ AH.out).2) HO.out);clear AB AI AA AV AU y0 AY AX AW;go_wp2_with fail
 refine HH.out.mono ?_;rintro e w4 ⟨rfl,Ab⟩;have Ag:=A0 (AJ.out.trans (Ab.mono AJ.out.size));clear Ab;go_wp2_with fail
 go_ret
 exact⟨rfl,Ag.out⟩
def IH.eff (h:IH):IH:=if h.fmt=0 then h.rnd else h
def IH.hx (h:IH) (rv:Value):Hd:=({h.hd2 with recs:=rv}:Hd).prom.rnd
structure IH.Rng (h:IH):Prop where
 typ:0<=h.typ/\h.typ<256
 size: -9223372036854775808<=h.size/\h.size<=9223372036854775807
 mode: -9223372036854775808<=h.mode/\h.mode<=9223372036854775807
 uid: -9223372036854775808<=h.uid/\h.uid<=9223372036854775807
 gid: -9223372036854775808<=h.gid/\h.gid<=9223372036854775807
 maj: -9223372036854775808<=h.maj/\h.maj<=9223372036854775807
 mnr: -9223372036854775808<=h.mnr/\h.mnr<=9223372036854775807
 ms: -9223372036854775808<=h.ms/\h.ms<=9223372036854775807
structure KOk (K:IH) (L:List (List UInt8×List UInt8)) (f:Int):Prop where
 sum:K.name.length+K.link.length+K.user.length+K.group.length+L1 L<=524288
 odd:O9 K.ms K.mn
 oddA:K.hasA=true->O9 K.ats K.atn
 oddC:K.hasC=true->O9 K.cts K.ctn
 ty:48<=K.sprom.typ/\K.sprom.typ<=55
 sl:A0V K.name=true->K.sprom.typ=53
 name:A0A K.name 256 f
 spl:f=1->K.name.length<=100\/∃i,A4k K.name i
 link:A0A K.link 100 f
 user:Y6 K.user f
 group:Y6 K.group f
 mode:M0 K.mode f false
 uid:M0 K.uid f true
 gid:M0 K.gid f true
 maj:M0 K.maj f false
 mnr:M0 K.mnr f false
 mom:M1 K.ms K.mn f
 sz8:f=1->K.size<8589934592
 sz0:0<=K.size
 us:f=1->0<=K.ms/\K.ms<8589934592/\K.hasA=false/\K.hasC=false
 ma:K.hasA=true->M1 K.ats K.atn f
 mc:K.hasC=true->M1 K.cts K.ctn f
 l2:L≠ []->f=2
 recs:∀r∈L,A2r r.1 r.2
theorem A4g.flat {K:IH} {L:List (List UInt8×List UInt8)} {f:Int} (k:A4g K L f):KOk K L f:=by
 obtain⟨⟨s1,-,-,s4,s5,s6⟩,⟨t1,t2,-,t4⟩,⟨⟨n1,n2⟩,l1,u1,g1⟩,⟨m1,m2,m3,m4,m5⟩,⟨o1,o2⟩,⟨z1,-⟩,us,ma,mc,l2,rs⟩:=k;exact⟨s1,s4,s5,s6,⟨t1,t2⟩,t4,n1,n2,l1,u1,g1,m1,m2,m3,m4,m5,o1,o2,z1,us,ma,mc,l2,rs⟩
theorem A8p {h W:IH} {L:List (List UInt8×List UInt8)} (k:B1h h L W):∃f,1<=f/\f<=3/\KOk h.eff L f/\W= {h.eff.sprom with fmt:=f}/\(h.fmt=0\/h.fmt=f)/\(h.fmt=0->h.mn≠500000000)/\O9 h.ms h.mn/\(h.hasA=true->O9 h.ats h.atn)/\(h.hasC=true->O9 h.cts h.ctn):=by
 obtain⟨hs,⟨h1,h2,h3⟩|⟨h1,h2,f,f1,f2,h3,h4⟩⟩:=k
 ·have e:h.eff=h:=if_neg h1
  have:=hs.2.1;have:=hs.2.2.1;rw[e];exact⟨h.fmt,by omega,by omega,h3.flat,h2,.inr rfl,λe=>absurd e h1,hs.2.2.2⟩
 ·have e:h.eff=h.rnd:=if_pos h1
  rw[e];exact⟨f,f1,f2,h4.flat,h3,.inl h1,λ_=>h2,hs.2.2.2⟩
theorem B5X {h:IH} {f:Int} {L:List (List UInt8×List UInt8)} (g:h.Rng) (k:KOk h.eff L f) (hf:1<=f/\f<=3) (AB:h.fmt=0\/h.fmt=f) (rv:Value):h.hx rv=({h.eff.hd2 with recs:=rv,fmt:=X9 h.fmt}:Hd).prom:=by
 by_cases h0:h.fmt=0
 ·have e:h.eff=h.rnd:=if_pos h0
  have hm:=k.mom;rw[e] at hm⊢
  have AA:h.rnd.ms=h.ms+(if 500000000<h.mn then 1 else 0):=by
   have e1:h.rnd.ms=if 500000000<h.mn then wrap64 (h.ms+1) else h.ms:=rfl
   unfold M1 at hm;rw[e1] at hm⊢;have:=g.ms;split at hm
   ·unfold wrap64 at hm⊢;omega
   ·omega
  have e2: (({h.hd2 with recs:=rv}:Hd).prom).fmt=0:=by show X9 h.fmt=0;rw[h0];rfl
  unfold IH.hx Hd.rnd;rw[if_pos e2];have e3:h.rnd.hd2.mx=h.rnd.ms+62135596800:=rfl;have e4:h.hd2.mx+(if 500000000<h.mn then 1 else 0)=h.rnd.ms+62135596800:=by rw[AA];show h.ms+62135596800+_=_;omega
  have e6: ({h.hd2 with recs:=rv}:Hd).prom.mx+(if 500000000< ({h.hd2 with recs:=rv}:Hd).prom.mw then 1 else 0)=h.rnd.ms+62135596800:=e4;rw[e6];rfl
 ·have e:h.eff=h:=if_neg h0
  have e2:¬(({h.hd2 with recs:=rv}:Hd).prom).fmt=0:=by
   show¬X9 h.fmt=0
   unfold X9;split
   ·decide
   ·split
    ·decide
    ·split
     ·decide
     ·omega
  rw[e];unfold IH.hx Hd.rnd;rw[if_neg e2];rfl
theorem Z3 (L:List (List UInt8×List UInt8)):∀ (m:KV) (k v:List UInt8),E0 m L k=some v->(k,v)∈L\/m k=some v:=by
 induction L with
 |nil=>intro m k v h;exact .inr h
 |cons p L ih=>
  intro m k v h;rcases ih _ k v h with h|h
  ·exact .inl (List.mem_cons_of_mem _ h)
  ·by_cases hk:k=p.1
   ·subst hk;rw[U6] at h;cases h;exact .inl (by simp)
   ·rw[R9 _ _ _ _ hk] at h;exact .inr h
theorem A9Q (L:List (List UInt8×List UInt8)):∀ (m:KV) (k:List UInt8),(m k≠none\/k∈L.map (·.1))->E0 m L k≠none:=by
 induction L with
 |nil=>
      intro m k h;rcases h with h|h
      ·exact h
      ·cases h
 |cons p L ih=>
  intro m k h;refine ih _ k ?_;by_cases hk:k=p.1
  ·subst hk;left;rw[U6];simp
  ·rcases h with h|h
   ·left;rw[R9 _ _ _ _ hk];exact h
   ·right
    rcases List.mem_cons.1 (by simpa using h:k∈p.1::L.map (·.1)) with e|e
    ·exact absurd e hk
    ·exact e
theorem A8C (L:List (List UInt8×List UInt8)):∀ (m:KV) (k:List UInt8),(∀p∈L,p.1≠k)->E0 m L k=m k:=by
 induction L with
 |nil=>intro m k _;rfl
 |cons p L ih=>
  intro m k h;rw[E0,ih _ k (λq hq=>h q (List.mem_cons_of_mem _ hq)),R9 _ _ _ _ (λe=>h p List.mem_cons_self e.symm)]
theorem A8B (L:List (List UInt8×List UInt8)):∀ (m:KV) (i:Nat) (hi:i<L.length),(∀ (j:Nat) (hj:j<L.length),i<j->L[j].1≠L[i].1)->E0 m L L[i].1=some L[i].2:=by
 induction L with
 |nil=>intro m i hi;cases hi
 |cons p L ih=>
  intro m i hi h;cases i with
  |zero=>
   rw[E0,List.getElem_cons_zero,A8C L _ _ (λq hq=> ?_),U6];obtain⟨j,hj,rfl⟩:=List.mem_iff_getElem.1 hq;exact h (j+1) (by simp;omega) (by omega)
  |succ i=>
   rw[E0,List.getElem_cons_succ];exact ih _ i (by simpa using hi) (λj hj AA=>h (j+1) (by simp;omega) (by omega))
theorem A2K {L:List (List UInt8×List UInt8)} {p:List UInt8×List UInt8} (h:p∈L):p.1.length+p.2.length+24<=L1 L:=by
 induction L with
 |nil=>cases h
 |cons q L ih=>
  rw[L1];rcases List.mem_cons.1 h with rfl|h
  ·omega
  ·have:=ih h;omega
theorem A6O (L:List (List UInt8×List UInt8)):L.length*24<=L1 L:=by
 induction L with
 |nil=>simp
 |cons q L ih=>rw[L1,List.length_cons];omega
theorem A8K [DecidableEq (List UInt8×List UInt8)] {L:List (List UInt8×List UInt8)} {p:List UInt8×List UInt8} (h:p∈L):L1 L=p.1.length+p.2.length+24+L1 (L.erase p):=by
 induction L with
 |nil=>cases h
 |cons q L ih=>
  by_cases hq:q=p
  ·subst hq;rw[List.erase_cons_head,L1]
  ·have hm:p∈L:=by rcases List.mem_cons.1 h with e|e;exact absurd e.symm hq;exact e
   rw[List.erase_cons_tail (by simpa using hq),L1,L1,ih hm];omega
theorem B1I:∀ (M L:List (List UInt8×List UInt8)),(M.map (·.1)).Nodup->(∀p∈M,p∈L/\F0 p.1 p.2=true)->(∀p∈M,p.1.length+p.2.length<=1048576)->(D7 M).length<=L1 L:=by
 intro M;induction M with
 |nil=>intro L _ _ _;exact Nat.zero_le _
 |cons q M ih=>
  intro L hn hm hl;have hq:=hm q List.mem_cons_self;rw[A8K hq.1,T7,List.length_append,P7];have AA:=List.nodup_cons.1 (by simpa using hn: (q.1::M.map (·.1)).Nodup);have h1:=A3l q.1 q.2 (by have:=hl q List.mem_cons_self;omega);have h2:=ih (L.erase q) AA.2 (λp hp=>⟨(List.mem_erase_of_ne (λe=>AA.1 (by subst e;exact List.mem_map.2 ⟨p,hp,rfl⟩))).2 (hm p (List.mem_cons_of_mem _ hp)).1,(hm p (List.mem_cons_of_mem _ hp)).2⟩) (λp hp=>hl p (List.mem_cons_of_mem _ hp));omega
theorem A2g {k p:List UInt8} {n:Nat} (hn:n<=p.length) (h:k.take n≠p.take n):Lib.hasPrefix k p=false:=by
 cases hp:Lib.hasPrefix k p with
 |false=>rfl
 |true=>
  obtain⟨t,rfl⟩:=List.isPrefixOf_iff_prefix.1 hp;exact absurd (List.take_append_of_le_length hn) h
theorem A6M {k v:List UInt8} (h:A2r k v):k∉F6:=by
 obtain⟨-,-,-,-,-,-,c,t,rfl,h1,h2⟩:=h;intro hm;have:∀q∈F6,97<=(q.getD 0 0).toNat:=by decide
 have:=this _ hm;simp at this;omega
theorem A4E {k v:List UInt8} (h:A2r k v):F0 k v=true:=by
 have ht:=A6M h;obtain⟨h1,h2,h3,h4,-,-,c,t,rfl,-,-⟩:=h
 have hk:¬((c::t)=H0\/(c::t)=I3\/(c::t)=F8\/(c::t)=F7):=by
  intro e;apply ht;rcases e with e|e|e|e<;>(rw[e];decide)
 simp only[F0,if_neg hk,decide_eq_false h4,decide_eq_false h1];rfl
theorem A2m {n f:Int} (h:M0 n f false) (hf:f≠3):B8 8 n=true:=by
 unfold M0 at h;unfold B8;rw[decide_eq_true_eq];have: (8:Int)^ (8-1)=2097152:=by decide
 rcases h.2.2 hf with ⟨-,h2⟩|h2
 ·cases h2
 ·omega
theorem Z5 {n:Int} {b:Bool} (h:M0 n 1 b):B8 8 n=true:=by
 unfold M0 at h;unfold B8;rw[decide_eq_true_eq];have: (8:Int)^ (8-1)=2097152:=by decide
 rcases h.2.2 (by decide) with ⟨h2,-⟩|h2
 ·cases h2
 ·omega
theorem A0W {n:Int} {b:Bool} (h:M0 n 3 b):M2 8 n=true:=by
 unfold M0 at h;have:=h.2.1 rfl;simp[M2];omega
theorem B3P {l:List UInt8} (ha:D6 l=true) (h1:100<l.length) {i:Nat} (hi:A4k l i):J2 l=true:=by
 obtain⟨i1,i2,i3,i4,i5⟩:=hi
 have AD:i<N6 l/\N6 l<=156/\N6 l<=l.length/\(l[N6 l]?=none->l[N6 l-1]?≠some 47):=by
  unfold N6;split
  ·rename_i h
   refine⟨by omega,by omega,by omega,λe=> ?_⟩;rw[List.getElem?_eq_none_iff] at e;omega
  ·split
   ·rename_i h
    refine⟨by omega,by omega,by omega,λe=> ?_⟩;rw[List.getElem?_eq_none_iff] at e;omega
   ·rename_i h
    exact⟨by omega,by omega,by omega,λ_=>h⟩
 obtain⟨c1,c2,c3,c4⟩:=AD;have AA: (l.take (N6 l)).length=N6 l:=by rw[List.length_take];omega
 have AB:Lib.occAt (l.take (N6 l)) [47] i=true:=by
  rw[Lib.occAt_iff_take _ _ _ (by rw[AA];simp;omega)];have AE:i< (l.take (N6 l)).length:=by omega
  rw[List.drop_eq_getElem_cons AE]
  have: (l.take (N6 l))[i]=47:=by
   rw[List.getElem_take];rw[List.getElem?_eq_getElem (by omega)] at i4;exact Option.some.inj i4
  rw[this];rfl
 have AC:∃k:Nat,M4 l=k/\i<=k/\k<N6 l/\l[k]?=some 47:=by
  unfold M4 Lib.lastIndex;rw[if_pos (by rw[AA];simp;omega)];rcases Lib.lastOcc_spec (l.take (N6 l)) [47] ((l.take (N6 l)).length- [(47:UInt8)].length+1) with ⟨-,h⟩|⟨k,hk,e,ho,hl⟩
  ·have:=h i (by rw[AA];simp;omega)
   rw[AB] at this;cases this
  ·refine⟨k,e,?_,?_,?_⟩
   ·rcases Nat.lt_or_ge k i with h|h
    ·have:=hl i h (by rw[AA];simp;omega)
     rw[AB] at this;cases this
    ·exact h
   ·rw[AA] at hk;simp at hk;omega
   ·have:=Lib.occAt_head rfl ho
    rw[List.getElem?_take] at this;split at this
    ·exact this
    ·cases this
 obtain⟨k,e,k1,k2,k3⟩:=AC
 have AH:k+1≠l.length:=λe2=>by
  have:N6 l=l.length:=by omega
  exact c4 (by rw[this];exact List.getElem?_eq_none_iff.2 (Nat.le_refl _)) (by rw[this,show l.length-1=k by omega];exact k3)
 have AG:k<l.length:=by omega
 simp only[J2,ha,decide_eq_true h1,Bool.true_and,decide_eq_true_eq,e];omega
section
variable {K:IH} {L:List (List UInt8×List UInt8)} {f F:Int}
def IH.hw (K:IH) (F:Int) (rv:Value):Hd:=({K.hd2 with recs:=rv,fmt:=F}:Hd).prom
theorem A6t (K:IH) (F:Int) (rv:Value): (K.hw F rv).typ=K.sprom.typ:=by
 show(if K.typ=0 then(if T9 K.name then(53:Int) else 48) else K.typ)=if K.typ=0 then(if A0V K.name then(53:Int) else 48) else K.typ
 rw[A6R]
theorem KOk.inH (k:KOk K L f):K.In where
 mn:=by have:=k.odd;unfold O9 at this;omega
 ms:=by have:=k.mom;unfold M1 at this;omega
 atn:=λe=>by have:=k.oddA e;unfold O9 at this;omega
 ctn:=λe=>by have:=k.oddC e;unfold O9 at this;omega
theorem KOk.ax (k:KOk K L f) (rv:Value): (K.hw F rv).ax=if K.hasA then K.ats+62135596800 else 0:=by
 show(if K.hasA then tx K.ats else 0)=_
 split
 ·rename_i e
  have:=k.ma e;unfold M1 at this;exact B3Z (by omega)
 ·rfl
theorem KOk.cx (k:KOk K L f) (rv:Value): (K.hw F rv).cx=if K.hasC then K.cts+62135596800 else 0:=by
 show(if K.hasC then tx K.cts else 0)=_
 split
 ·rename_i e
  have:=k.mc e;unfold M1 at this;exact B3Z (by omega)
 ·rfl
theorem B6p {h:IH} {f:Int} {L:List (List UInt8×List UInt8)} (g:h.Rng) (k:KOk h.eff L f) (o:O9 h.ms h.mn/\(h.hasA=true->O9 h.ats h.atn)/\(h.hasC=true->O9 h.cts h.ctn)):h.In where
 mn:=by have:=o.1;unfold O9 at this;omega
 ms:=by
  have hm:=k.mom;by_cases h0:h.fmt=0
  ·have e:h.eff=h.rnd:=if_pos h0
   rw[e] at hm;have e1:h.rnd.ms=if 500000000<h.mn then wrap64 (h.ms+1) else h.ms:=rfl
   unfold M1 at hm;rw[e1] at hm;have:=g.ms;split at hm
   ·unfold wrap64 at hm;omega
   ·omega
  ·have e:h.eff=h:=if_neg h0
   rw[e] at hm;unfold M1 at hm;omega
 atn:=λe=>by have:=o.2.1 e;unfold O9 at this;omega
 ctn:=λe=>by have:=o.2.2 e;unfold O9 at this;omega
def FOk (K:IH) (f F:Int):Prop:=(F=0/\K.mn=0/\K.hasA=false/\K.hasC=false)\/F=X9 f
theorem Z2 (hf:1<=f/\f<=3): (f=1/\X9 f=2)\/(f=2/\X9 f=4)\/(f=3/\X9 f=8):=by
 have:f=1\/f=2\/f=3:=by omega
 rcases this with rfl|rfl|rfl
 ·exact .inl ⟨rfl,rfl⟩
 ·exact .inr (.inl ⟨rfl,rfl⟩)
 ·exact .inr (.inr ⟨rfl,rfl⟩)
theorem KOk.hg (k:KOk K L f) (g:K.Rng) (hf:1<=f/\f<=3) (hF:FOk K f F) (rv:Value):HG (K.hw F rv) (E0 (λ_=>none) L) where
 inT:=by
  have hi:=k.inH;have hs:=k.sum;have e1: (K.hw F rv).aw=if K.hasA then K.atn else 0:=rfl
  have e2: (K.hw F rv).ax=if K.hasA then K.ats+62135596800 else 0:=k.ax rv
  have e3: (K.hw F rv).cw=if K.hasC then K.ctn else 0:=rfl
  have e4: (K.hw F rv).cx=if K.hasC then K.cts+62135596800 else 0:=k.cx rv
  refine {mode:=g.mode,uid:=g.uid,gid:=g.gid,size:=g.size,maj:=g.maj,mnr:=g.mnr,mw:=hi.mn,mx:= ?_,typ:= ?_,name:= ?_,link:= ?_,user:= ?_,group:= ?_,aw:= ?_,ax:= ?_,cw:= ?_,cx:= ?_}
  ·show _<=K.ms+62135596800-62135596800/\K.ms+62135596800-62135596800<=_
   have:=k.mom;unfold M1 at this;omega
  ·rw[A6t];have:=k.ty;omega
  ·show K.name.length<=_;omega
  ·show K.link.length<=_;omega
  ·show K.user.length<=_;omega
  ·show K.group.length<=_;omega
  ·rw[e1];split
   ·rename_i e;exact hi.atn e
   ·decide
  ·rw[e2];split
   ·rename_i e;have:=k.ma e;unfold M1 at this;omega
   ·decide
  ·rw[e3];split
   ·rename_i e;exact hi.ctn e
   ·decide
  ·rw[e4];split
   ·rename_i e;have:=k.mc e;unfold M1 at this;omega
   ·decide
 ty:=by rw[A6t];exact k.ty
 sl:=λe=>by
  rw[A6t];exact k.sl (by rw[<-A6R];exact e)
 size:=k.sz0
 xa:=rfl
 zn:=k.name.1
 zl:=k.link.1
 zu:=k.user.1
 zg:=k.group.1
 fmt:=by
  show F=0\/F=2\/F=4\/F=8
  rcases hF with h|h
  ·exact .inl h.1
  ·rcases Z2 hf with ⟨-,e⟩|⟨-,e⟩|⟨-,e⟩<;>(rw[h,e];decide)
 tz:=by
  have:=k.odd;unfold O9 at this;unfold E5;rw[decide_eq_false_iff_not];rintro⟨e1,e2⟩;have e1:K.mn=0:=e1;have e2:K.ms+62135596800=0:=e2;exact this.2.2 (by omega) e1
 mw:=λe=>by
  show K.mn=0
  rcases hF with h|h
  ·exact h.2.1
  ·have:=k.mom.2.2
   rcases Z2 hf with ⟨e1,-⟩|⟨-,e2⟩|⟨e1,-⟩
   ·exact this (by omega)
   ·exact absurd (show F=4 by rw[h,e2]) e
   ·exact this (by omega)
 ac:=λe=>by
  have e1: (K.hw F rv).aw=if K.hasA then K.atn else 0:=rfl
  have e3: (K.hw F rv).cw=if K.hasC then K.ctn else 0:=rfl
  rw[e1,e3];rcases hF with ⟨-,-,h1,h2⟩|h
  ·rw[h1,h2];exact⟨rfl,rfl⟩
  ·have AA:f≠2:=λe2=>by
    rcases Z2 hf with ⟨e1,-⟩|⟨-,e4⟩|⟨e1,-⟩
    ·omega
    ·exact absurd (show F=4 by rw[h,e4]) e
    ·omega
   constructor
   ·split
    ·rename_i ha;exact(k.ma ha).2.2 AA
    ·rfl
   ·split
    ·rename_i hc;exact(k.mc hc).2.2 AA
    ·rfl
 r0:=by
  cases hr:E0 (λ_=>none) L [] with
  |none=>rfl
  |some v=>
   rcases Z3 L _ _ _ hr with h|h
   ·obtain⟨-,-,-,-,-,-,c,t,e,-,-⟩:=k.recs _ h
    cases e
   ·cases h
 rne:=λq v hr=>by
  rcases Z3 L _ _ _ hr with h|h
  ·exact(k.recs _ h).2.2.1
  ·cases h
 rval:=λq v hr _=>by
  rcases Z3 L _ _ _ hr with h|h
  ·have hr:=k.recs _ h
   have hl:=A2K h;have hs:=k.sum;simp only at hl;refine⟨A4E hr,by omega,by omega,A2g (n:=7) (by decide) hr.2.2.2.2.2.1,A2g (n:=11) (by decide) hr.2.2.2.2.1⟩
  ·cases h
 sum:=λM hn hM=>by
  have hs:=k.sum
  have: (D7 M).length<=L1 L:=by
   refine B1I M L hn (λp hp=> ?_) (λp hp=> ?_)
   ·rcases Z3 L _ _ _ (hM p hp).1 with h|h
    ·exact⟨h,A4E (k.recs _ h)⟩
    ·cases h
   ·rcases Z3 L _ _ _ (hM p hp).1 with h|h
    ·have:=A2K h;simp only at this;omega
    ·cases h
  show(D7 M).length+K.name.length+K.link.length+K.user.length+K.group.length<=_
  omega
theorem KOk.st_u (k:KOk K L f) (hf:f=1) (R:KV) (rv:Value): ((K.hw F rv).st R).u=true:=by
 subst hf;obtain⟨u1,u2,u3,u4⟩:=k.us rfl
 have ea:E5 (K.hw F rv).aw (K.hw F rv).ax=true:=by
  have e1: (K.hw F rv).aw=if K.hasA then K.atn else 0:=rfl
  have e2: (K.hw F rv).ax=if K.hasA then K.ats+62135596800 else 0:=k.ax rv
  rw[e1,e2,u3];rfl
 have ec:E5 (K.hw F rv).cw (K.hw F rv).cx=true:=by
  have e1: (K.hw F rv).cw=if K.hasC then K.ctn else 0:=rfl
  have e2: (K.hw F rv).cx=if K.hasC then K.cts+62135596800 else 0:=k.cx rv
  rw[e1,e2,u4];rfl
 have h8: (8:Int)^ (12-1)=8589934592:=by decide
 have AJ:B8 12 (K.hw F rv).size=true:=by
  unfold B8;rw[decide_eq_true_eq,h8];exact⟨k.sz0,k.sz8 rfl⟩
 have AH:B8 12 ((K.hw F rv).mx-62135596800)=true:=by
  unfold B8;rw[decide_eq_true_eq,h8];show 0<=K.ms+62135596800-62135596800/\K.ms+62135596800-62135596800<_
  omega
 have AB:∀ {u:Bool} {s:List UInt8} {n:Nat} {key:List UInt8},D6 s=true/\s.length<=n->M6 u s n key=u:=λ{u s n key} h=>by
  unfold M6;rw[h.1,decide_eq_false (by omega)];rfl
 have hn:=k.name.2 rfl
 have AI:M6 true K.name 100 H0=true:=by
  rcases k.spl rfl with h|⟨i,hi⟩
  ·exact AB ⟨hn.1,h⟩
  ·by_cases hl:K.name.length<=100
   ·exact AB ⟨hn.1,hl⟩
   ·unfold M6
    rw[B3P hn.1 (by omega) hi,hn.1,decide_eq_true (show 100<K.name.length by omega)];rfl
 have AA:B8 8 (K.hw F rv).mode=true:=Z5 k.mode;have AG:B8 8 (K.hw F rv).uid=true:=Z5 k.uid;have AC:B8 8 (K.hw F rv).gid=true:=Z5 k.gid;have AD:B8 8 (K.hw F rv).maj=true:=Z5 k.maj;have AE:B8 8 (K.hw F rv).mnr=true:=Z5 k.mnr;rw[Go.Proofs.YtkanmkcojlefbaaGreatDoor.st_u,AA,AG,AC,AJ,AD,AE];have e0: (K.hw F rv).name=K.name:=rfl;have e1: (K.hw F rv).link=K.link:=rfl;have e2: (K.hw F rv).user=K.user:=rfl;have e3: (K.hw F rv).group=K.group:=rfl;rw[e0,e1,e2,e3,AI,AB (s:=K.link) (n:=100) (key:=I3) ⟨(k.link.2 rfl).1,by have:=(k.link.2 rfl).2;omega⟩,AB (s:=K.user) (k.user.2.1 rfl),AB (s:=K.group) (k.group.2.1 rfl)];unfold A0E;rw[ec,ea,AH];simp
theorem KOk.st_p (k:KOk K L f) (hf:f≠3) (R:KV) (rv:Value): ((K.hw F rv).st R).p=true:=by
 rw[Go.Proofs.YtkanmkcojlefbaaGreatDoor.st_p];have AA:B8 8 (K.hw F rv).mode=true:=A2m k.mode hf;have AB:B8 8 (K.hw F rv).maj=true:=A2m k.maj hf;have AC:B8 8 (K.hw F rv).mnr=true:=A2m k.mnr hf;rw[AA,AB,AC];rfl
theorem KOk.st_g (k:KOk K L f) (hf:f=3) (R:KV) (rv:Value): ((K.hw F rv).st R).g=true:=by
 subst hf
 have AB:∀ {u:Bool} {s:List UInt8} {n:Nat} {key:List UInt8},(0:UInt8)∉s->(s.length<=n\/key=H0\/key=I3)->I1 u s n key=u:=λ{u s n key} h1 h2=>by
  unfold I1;rw[decide_eq_false h1];rcases h2 with h|h|h
  ·rw[decide_eq_false (show¬n<s.length by omega)];rfl
  ·rw[decide_eq_true h];simp
  ·rw[decide_eq_true h];simp
 have AA:M2 8 (K.hw F rv).mode=true:=A0W k.mode;have AG:M2 8 (K.hw F rv).uid=true:=A0W k.uid;have AC:M2 8 (K.hw F rv).gid=true:=A0W k.gid;have AD:M2 8 (K.hw F rv).maj=true:=A0W k.maj;have AE:M2 8 (K.hw F rv).mnr=true:=A0W k.mnr;have AH:M2 12 (K.hw F rv).size=true:=by simp[M2]
 rw[Go.Proofs.YtkanmkcojlefbaaGreatDoor.st_g,AA,AG,AC,AH,AD,AE];have e0: (K.hw F rv).name=K.name:=rfl;have e1: (K.hw F rv).link=K.link:=rfl;have e2: (K.hw F rv).user=K.user:=rfl;have e3: (K.hw F rv).group=K.group:=rfl;rw[e0,e1,e2,e3,AB k.name.1 (.inr (.inl rfl)),AB k.link.1 (.inr (.inr rfl)),AB k.user.1 (.inl (k.user.2.2.1 rfl)),AB k.group.1 (.inl (k.group.2.2.1 rfl))];rfl
theorem KOk.up (k:KOk K L f) (hf:1<=f/\f<=3) (hF:FOk K f F) (AA:Bool) (hr:L=[]->AA=false) (R:KV) (rv:Value): (fOf (K.hw F rv) R AA).1=true\/(fOf (K.hw F rv) R AA).2.1=true\/(fOf (K.hw F rv) R AA).2.2=true:=by
 have hL:f≠2->AA=false:=λh=>hr (by
  cases L with
  |nil=>rfl
  |cons p L=>exact absurd (k.l2 (List.cons_ne_nil _ _)) h)
 have eF: (K.hw F rv).fmt=F:=rfl;unfold fOf S8;rw[eF];rcases hF with ⟨h,-⟩|h
 ·rw[if_pos h]
  by_cases h3:f=3
  ·right;right;rw[k.st_g h3,hL (by omega)];rfl
  ·right;left;exact k.st_p h3 R rv
 ·rcases Z2 hf with ⟨e1,e2⟩|⟨e1,e2⟩|⟨e1,e2⟩<;>rw[e2] at h<;>subst h
  ·left;rw[if_neg (by decide),if_pos rfl,k.st_u e1,hL (by omega)];rfl
  ·right;left;rw[if_neg (by decide),if_neg (by decide),if_pos rfl];exact k.st_p (by omega) R rv
  ·right;right;rw[if_neg (by decide),if_neg (by decide),if_neg (by decide),k.st_g e1,hL (by omega)];rfl
theorem KOk.same (k:KOk K L f) (f2:Int) (rv AA:Value) (W:IH) (hW:W= {K.sprom with fmt:=f}):A1b ({A0e ((K.hw F rv).rd f2) with recs:=AA}:IH) W:=by
 subst hW
 have hA:K.hasA=true->E5 K.atn (K.ats+62135596800)=false:=λe=>by
  have:=k.oddA e;unfold O9 at this;unfold E5;rw[decide_eq_false_iff_not];rintro⟨e1,e2⟩;exact this.2.2 (by omega) e1
 have hC:K.hasC=true->E5 K.ctn (K.cts+62135596800)=false:=λe=>by
  have:=k.oddC e;unfold O9 at this;unfold E5;rw[decide_eq_false_iff_not];rintro⟨e1,e2⟩;exact this.2.2 (by omega) e1
 have et:=A6t K F rv;have e1: (K.hw F rv).aw=if K.hasA then K.atn else 0:=rfl
 have e2: (K.hw F rv).ax=if K.hasA then K.ats+62135596800 else 0:=k.ax rv
 have e3: (K.hw F rv).cw=if K.hasC then K.ctn else 0:=rfl
 have e4: (K.hw F rv).cx=if K.hasC then K.cts+62135596800 else 0:=k.cx rv
 have em: (K.hw F rv).mx-62135596800=K.ms:=by show K.ms+62135596800-62135596800=K.ms;omega
 cases ha:K.hasA<;>cases hc:K.hasC
 all_goals
  rw[ha] at e1 e2;rw[hc] at e3 e4;simp only[Bool.false_eq_true,if_false,if_true] at e1 e2 e3 e4;refine⟨et.symm,rfl,rfl,rfl,rfl,rfl,rfl,rfl,rfl,em.symm,rfl,?_,?_,?_,?_,rfl,rfl⟩
 all_goals first
  |(show K.hasA= !E5 (K.hw F rv).aw (K.hw F rv).ax;rw[ha,e1,e2,hA ha];rfl)
  |(show K.hasC= !E5 (K.hw F rv).cw (K.hw F rv).cx;rw[hc,e3,e4,hC hc];rfl)
  |(show K.hasA= !E5 (K.hw F rv).aw (K.hw F rv).ax;rw[ha,e1,e2];rfl)
  |(show K.hasC= !E5 (K.hw F rv).cw (K.hw F rv).cx;rw[hc,e3,e4];rfl)
  |(intro e;exfalso;have e: (!E5 (K.hw F rv).aw (K.hw F rv).ax)=true:=e;rw[e1,e2] at e;exact absurd e (by decide))
  |(intro e;exfalso;have e: (!E5 (K.hw F rv).cw (K.hw F rv).cx)=true:=e;rw[e3,e4] at e;exact absurd e (by decide))
  |(intro _;show K.ats=(if E5 (K.hw F rv).aw (K.hw F rv).ax then 0 else(K.hw F rv).ax-62135596800)/\K.atn=(if E5 (K.hw F rv).aw (K.hw F rv).ax then 0 else(K.hw F rv).aw);rw[e1,e2,hA ha];simp;done)
  |(intro _;show K.cts=(if E5 (K.hw F rv).cw (K.hw F rv).cx then 0 else(K.hw F rv).cx-62135596800)/\K.ctn=(if E5 (K.hw F rv).cw (K.hw F rv).cx then 0 else(K.hw F rv).cw);rw[e3,e4,hC hc];simp;done)
theorem B2I {L2:List (List UInt8×List UInt8)} {q v:List UInt8} (hn: (L2.map (·.1)).Nodup) (hm: (q,v)∈L2):A0g L2 q=some v:=by
 unfold A0g;cases hf:L2.reverse.find? (λp=>p.1==q) with
 |none=>
  have:=List.find?_eq_none.1 hf (q,v) (List.mem_reverse.2 hm);simp at this
 |some p=>
  have h1:=List.find?_some hf;have h2:=List.mem_reverse.1 (List.mem_of_find?_eq_some hf);have h3:p.1=q:=by simpa using h1
  have:p=(q,v):=by
   clear hf h1;induction L2 with
   |nil=>cases h2
   |cons x L2 ih=>
    have AA:=List.nodup_cons.1 (by simpa using hn: (x.1::L2.map (·.1)).Nodup);rcases List.mem_cons.1 h2 with e2|h2
    ·rcases List.mem_cons.1 hm with e1|hm
     ·rw[e2,e1]
     ·exact absurd (List.mem_map.2 ⟨(q,v),hm,by rw[<-h3,e2]⟩) AA.1
    ·rcases List.mem_cons.1 hm with e1|hm
     ·exact absurd (List.mem_map.2 ⟨p,h2,by rw[h3,<-e1]⟩) AA.1
     ·exact ih AA.2 hm h2
  rw[this];rfl
theorem KOk.has (k:KOk K L f) (AA:Bool) (hr:AA=false->L=[]) (rv:Value) {R2:KV} {L2:List (List UInt8×List UInt8)} (h2:A8j R2 L2) (hR:R2=R3 ((K.hw F rv).st (E0 (λ_=>none) L)).m (E0 (λ_=>none) L) (K.hw F rv).typ\/(AA=false/\∀q,R2 q=none)):B1j L2 L:=by
 intro i hi hl;rcases hR with rfl|⟨h,-⟩
 ·have hm:=A8B L (λ_=>none) i hi hl
  have AC:=k.recs _ (List.getElem_mem hi);have AB:=A6M AC;refine B2I h2.nd (h2.all _ _ ?_);unfold R3;rw[A4d _ _ AB];simp only;rw[if_pos (.inr ⟨AB,A2g (n:=11) (by decide) AC.2.2.2.2.1⟩)];exact hm
 ·rw[hr h] at hi;cases hi
end
end Go.Proofs.YtkanmkcojlefbaaGreatDoor
namespace Go.Proofs.YtkanmkcojlefbaaGreatDoor
open Go.ChangeShapes Go.WideShapes Go.ChangeAt Go.RowKit Go.Maps
theorem B6L:Tryz.prog.underlying 194=some (.map 9 4):=by kernel_rfl
theorem A7f {H:Type} {enc:TypeId×Value->H} {P:Program} {AA:Nat} {AB:Bool} {e:TypeId} (he:P.underlying e=some .bool) {W:World} {sp:Nat->Bool} {m:Nat} {v:Value} {z:DataW H×List MemPlace} (h:WideElems.elemAt enc P W AA sp AB m e v=some z):plainElem P e v=some z:=by
 unfold WideElems.elemAt at h;split at h
 ·rename_i hf
  obtain⟨b,hc,rfl⟩:=DataW.trod_bool he h;cases v<;>simp[Value.formed,he,Value.cells] at hf hc
  subst hc;simp[plainElem,he]
 ·cases h
theorem A9E (k:List UInt8): (Rows.laid_tapearchives_pub_gotar_basicKeys (H:=Unit)).atKey (.string k) (.lit (.bool false))= .lit (.bool (decide (k∈F6))):=by
 by_cases hk:k∈F6
 ·rw[decide_eq_true hk]
  simp only[F6,List.mem_cons,List.not_mem_nil,or_false] at hk;rcases hk with rfl|rfl|rfl|rfl|rfl|rfl|rfl|rfl|rfl|rfl<;>rfl
 ·rw[decide_eq_false hk]
  have h:∀q∈F6,(q==k)=false:=λq hq=>by
   rw[beq_eq_false_iff_ne];rintro rfl;exact hk hq
  have h1:=h H0 (by decide);have h2:=h I3 (by decide);have h3:=h N9 (by decide);have h4:=h V2 (by decide);have h5:=h V1 (by decide);have h6:=h F8 (by decide);have h7:=h F7 (by decide);have h8:=h H6 (by decide);have h9:=h J5 (by decide);have h0:=h J6 (by decide);simp only[H0,I3,N9,V2,V1,F8,F7,H6,J5,J6] at h1 h2 h3 h4 h5 h6 h7 h8 h9 h0;simp only[Rows.laid_tapearchives_pub_gotar_basicKeys,DataW.atKey,List.find?_cons,List.find?_nil,Lit.sameKey,h1,h2,h3,h4,h5,h6,h7,h8,h9,h0]
theorem B0l {W:World} {r:List (String×DataW Unit)} (h:laidMet Tryz.prog (("tapearchives/pub/gotar.basicKeys",Rows.laid_tapearchives_pub_gotar_basicKeys)::r) W):∃mb,mb<W.heap.size/\W.cell? ⟨7,0,none⟩=some (.map (some mb))/\A2Z W mb:=by
 obtain⟨g,t,cs,AB,p,hg,ht,hv,hd⟩:=Lib.laidMet.reads h (List.mem_cons_self ..);have eg:Tryz.prog.globalNamed "tapearchives/pub/gotar.basicKeys" =some 7:=by kernel_rfl
 obtain rfl:=Option.some.inj (eg.symm.trans hg);have et: (Tryz.prog.globals[7]?).map (·.type)=some 194:=by kernel_rfl
 obtain rfl:=Option.some.inj (et.symm.trans ht);rcases WideElems.open_map B6L hd with ⟨-,hx⟩|⟨b,es,AA,n,-,AC,hb,-,F,hx⟩
 ·cases hx
 ·have ho:=World.ownsMap_of_fit (R:=plainElem Tryz.prog 4) hb F (λx _ z hz=>A7f Tryz.underlying4 hz)
  refine⟨b,A8 hb,?_,_,es.size,ho,λk=> ?_⟩
  ·have:=World.var?_cell hg hv 0
   rw[this]
   obtain rfl:cs=#[.map (some b)]:=by
    apply Array.toList_inj.1;rw[AC]
   rfl
  ·have hD:=(Prod.mk.inj hx).1
   rw[<-hD];exact A9E k
theorem A8v {W:World} (h:laidMet Tryz.prog Rows.fnFieldsComeFirstRow.laid W):∃E,Gl W.heap.size E W:=by
 have t1:laidMet Tryz.prog (("math/bits.deBruijn64tab",Lib.tabData .u8 [0,1,56,2,57,49,28,3,61,58,42,50,38,29,17,4,62,47,59,36,45,43,51,22,53,39,33,30,24,18,12,5,63,55,48,27,60,41,37,16,46,35,44,21,52,32,23,11,54,26,40,15,34,20,31,10,25,14,19,9,13,8,7,6])::_) W:=h.tail;have t2:laidMet Tryz.prog (("internal/strconv.uint64pow10",Lib.tabData .u64 Lib.pow10Tab)::_) W:=h.tail.tail;have t7:laidMet Tryz.prog (("io.EOF",Rows.laid_io_EOF)::_) W:=h.tail.tail.tail.tail.tail.tail.tail;have tk:laidMet Tryz.prog (("tapearchives/pub/gotar.basicKeys",Rows.laid_tapearchives_pub_gotar_basicKeys)::_) W:=t7.tail.tail.tail.tail.tail.tail.tail.tail.tail;obtain⟨a0,h0⟩:=Z4 t7 (by kernel_rfl) (by kernel_rfl);obtain⟨a5,h5⟩:=Z4 t7.tail (by kernel_rfl) (by kernel_rfl);obtain⟨a18,AA⟩:=Z4 t7.tail.tail (by kernel_rfl) (by kernel_rfl);obtain⟨a1,h1⟩:=Z4 t7.tail.tail.tail (by kernel_rfl) (by kernel_rfl);obtain⟨a2,h2⟩:=Z4 t7.tail.tail.tail.tail (by kernel_rfl) (by kernel_rfl);obtain⟨a3,h3⟩:=Z4 t7.tail.tail.tail.tail.tail (by kernel_rfl) (by kernel_rfl);obtain⟨a4,h4⟩:=Z4 t7.tail.tail.tail.tail.tail.tail (by kernel_rfl) (by kernel_rfl);obtain⟨a6,h6⟩:=Z4 t7.tail.tail.tail.tail.tail.tail.tail (by kernel_rfl) (by kernel_rfl);obtain⟨mb,k1,k2,k3⟩:=B0l tk;have tb:=Lib.tabIs_of_head (g:=15) (by kernel_rfl) (t:=382) (by kernel_rfl) (e:=5) (n:=64) Tryz.underlying382 Tryz.underlying5 (by kernel_rfl) (by kernel_rfl) t1
 have tp:=Lib.tabIs_of_head (g:=10) (by kernel_rfl) (t:=335) (by kernel_rfl) (e:=124) (n:=20) Tryz.underlying335 Tryz.underlying124 (by kernel_rfl) (by kernel_rfl) t2;refine⟨λi=>match i with|0=>a0|1=>a1|2=>a2|3=>a3|4=>a4|5=>a5|_=>a6,Nat.le_refl _,block_lt_of_cell AA,λi hi=> ?_,?_,tp,mb,k1,k2,k3⟩
 ·match i,hi with
  |0,_=>exact h0
  |1,_=>exact h1
  |2,_=>exact h2
  |3,_=>exact h3
  |4,_=>exact h4
  |5,_=>exact h5
  |6,_=>exact h6
 ·exact tb.cell (g:=15) (by kernel_rfl) 7 (by decide)
end Go.Proofs.YtkanmkcojlefbaaGreatDoor
