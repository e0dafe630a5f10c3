/-
  Part of the proof; holds the texts Frd, Ref1, Ref2.
-/
import Derived.Test.YtkanmkcojlefbaaGreatDoorM38
set_option maxHeartbeats 4000000
set_option maxRecDepth 100000
set_option linter.unusedSimpArgs false
set_option linter.unusedVariables false
namespace Go.Proofs.YtkanmkcojlefbaaGreatDoor
open Go.RowKit
theorem HG.recl_len {H:Hd} {R:KV} (hg:HG H R) {L:List (List UInt8×List UInt8)} (h:A8j (R3 (H.st R).m R H.typ) L):L.length<=1048576:=by
 have h1:=hg.total L h.nd h.mem;have hm:=h.mem
 have:L.length<=(D7 L).length:=by
  clear h h1;induction L with
  |nil=>exact Nat.zero_le _
  |cons p L ih=>
   have hv:=(hg.val p.1 p.2 (hm p (by simp))).1;have:=A0y p.1 p.2 (List.length_pos_iff.2 (M7 hv).1);rw[T7,List.length_append,P7,List.length_cons];have:=ih (λq hq=>hm q (List.mem_cons_of_mem _ hq));omega
 omega
theorem B4A (H:Hd) (h1:H.mw=0) (h2:H.aw=0) (h3:H.ax=0) (h4:H.cw=0) (h5:H.cx=0): ({H with mw:=0,aw:=0,ax:=0,cw:=0,cx:=0,xattr:= .map none,recs:= .map none,fmt:=6}:Hd)= {H with xattr:= .map none,recs:= .map none,fmt:=6}:=by
 cases H;simp_all
theorem A8I {m R:KV} {typ:Int} (ht:typ≠103) {k:List UInt8} (hm:m k=none) (hp:Lib.hasPrefix k [71,78,85,46,115,112,97,114,115,101,46]=true):R3 m R typ k=none:=by
 unfold R3;rw[hm];simp only;rw[if_neg];rintro(h|⟨-,h⟩)
 ·exact ht h
 ·rw[hp] at h;cases h
theorem B0d (w:World) (g o c:Nat) (Ab:List UInt8) (aE:Addr) (H:Hd) (R:KV) (AB:Bool) (hg:HG H R)
  (Am: (fOf H R AB).1=false->(fOf H R AB).2.1=false->(fOf H R AB).2.2=true) (ho:A4O (fOf H R AB) (R3 (H.st R).m R H.typ) H Ab) (AL:At w g o (Lib.byteCells Ab)) (hE:w.cell? ⟨0,0,none⟩=some (I7 aE)):
  Calls Tryz.prog 11 #[.slice (some ⟨g,o,none⟩) Ab.length c] w (A8g H (R3 (H.st R).m R H.typ) AB w):=by
 have Aw:∀B:C1,J9 B=H.typ->True:=λ_ _=>trivial;rcases ho with ⟨hf,B2,hu,rfl⟩|⟨hf,AX,B2,X,AV,Ap,rfl⟩|⟨hf,AX,B2,X,Y,An,hX,hY,rfl⟩
 ·obtain⟨Al,hr,Ao⟩:=B4w hg AB hf
  obtain⟨u1,u2,u3,u4,u5,u6⟩:=B3a H R Al;have AT:=hg.ty;have AE:=hu.rdf u1 u2 (by omega);have AA:=hu.back u1 u2 (by omega) hg.tz
  have AC: ({O7 B2 (uV H) with fmt:=2}:Hd)=H.rd 2:=by
   rw[AA,B4A H Ao u3 u4 u5 u6];rfl
  have AG:J9 B2=H.typ:=by rw[J9,hu.typ];exact typ_back _ (by omega)
  have AY:B2.bytes.length=512:=hu.ok.len;refine(A1N w g o B2.bytes.length c (0+512) B2.bytes aE B2 (λ_=>H.rd 2) (λ_=>none) (if D1 (O7 B2 (uV H)).typ then 0 else(O7 B2 (uV H)).size) AL rfl (by omega) (by omega) hE (λmb=>hg.inO 2 (.inl rfl) _) ?_).mono ?_
  ·intro w' tr r g' c' fr hr AM ht AP AD AO AI AJ
   refine(B4y w' tr r g' _ c' 0 fr B2.bytes A0d aE B2 (uV H) _ AE hr AM ht (by omega) (by omega) AP rfl AD AO (by rw[List.drop_zero,List.take_of_length_le (by omega)]) AI AJ (by rw[AG];exact AT) rfl ?_ ?_).mono (λe Ae h=>⟨0,?_⟩)
   ·rw[AA];show 0<=(if D1 H.typ then(0:Int) else H.size);split
    ·decide
    ·exact hg.size
   ·rw[AA];show(if D1 H.typ then(0:Int) else H.size)<=_;split
    ·decide
    ·exact hg.inT.size.2
   ·rw[AC] at h
    exact h
  ·rintro e w' ⟨mb,rv,L,rfl,h3,h4,h5⟩
   exact⟨rv,L,2,λ_=>none,rfl,h3,h4,.inr ⟨hr,λ_=>rfl⟩,A5L h4,h5⟩
 ·have hp:=B6z AB AX
  have AT:=hg.ty;have ht:H.typ≠103:=by omega
  have AE:=AV.rdf (by omega);have AA:=AV.back R AT hp.1 hp.2.1 hp.2.2 hg.tz;have AG:J9 B2=H.typ:=by rw[J9,AV.typ];exact typ_back _ (by omega)
  have Ad:B2.bytes.length=512:=AV.ok.len
  have Ar:0<=(if D1 H.typ then(0:Int) else H.size):=by
   split
   ·decide
   ·exact hg.size
  have As: (if D1 H.typ then(0:Int) else H.size)<=9223372036854775807:=by
   split
   ·decide
   ·exact hg.inT.size.2
  have AW:0<=(if D1 (O7 B2 (pV H)).typ then(0:Int) else(O7 B2 (pV H)).size)/\(if D1 (O7 B2 (pV H)).typ then(0:Int) else(O7 B2 (pV H)).size)<=9223372036854775807:=by
   have h9: (O7 B2 (pV H)).size=(oP 12 H.size:Nat):=rfl;have h8:=A5C 12 H.size;rw[h9];split
   ·exact⟨by decide,by decide⟩
   ·have: (8:Nat)^ (12-1)=8589934592:=by decide
    omega
  rcases Ap with ⟨hm,rfl⟩|⟨Rb,L,Aa,Ac,Af,Ag,Ah,rfl⟩
  ·have e1:mrg (O7 B2 (pV H)) (A3I H R) (λk=>(R3 (H.st R).m R H.typ k).isSome)=O7 B2 (pV H):=by
    have: (λk=>(R3 (H.st R).m R H.typ k).isSome)=λ_=>false:=by funext k;rw[hm k];rfl
    rw[this];rfl
   rw[e1] at AA;have AC: ({O7 B2 (pV H) with fmt:=2}:Hd)=H.rd 2:=by rw[AA];rfl
   rw[List.nil_append] at AL⊢;refine(A1N w g o B2.bytes.length c (0+512) B2.bytes aE B2 (λ_=>H.rd 2) (λ_=>none) (if D1 (O7 B2 (pV H)).typ then 0 else(O7 B2 (pV H)).size) AL rfl (by omega) (by omega) hE (λmb=>hg.inO 2 (.inl rfl) _) ?_).mono ?_
   ·intro w' tr r g' c' fr hr AM ht AP AD AO AI AJ
    refine(B4y w' tr r g' _ c' 0 fr B2.bytes A0d aE B2 (pV H) _ AE hr AM ht (by omega) (by omega) AP rfl AD AO (by rw[List.drop_zero,List.take_of_length_le (by omega)]) AI AJ (by rw[AG];exact AT) rfl AW.1 AW.2).mono (λe Ae h=>⟨0,?_⟩);rw[AC] at h;exact h
   ·rintro e w' ⟨mb,rv,L,rfl,h3,h4,h5⟩
    exact⟨rv,L,2,λ_=>none,rfl,h3,h4,.inl (funext λk=>(hm k).symm),A5L h4,h5⟩
  ·have AH:E0 (λ_=>none) L=R3 (H.st R).m R H.typ:=A9P _ L Ac Af
   have Aq:=Aa.rdf (by omega) (by omega);have AU:Rb.bytes.length=512:=Aa.ok.len;have Av:0<=E7 (D7 L).length/\E7 (D7 L).length<512:=by unfold E7;omega
   have AQ:∀k,k∉F6->Lib.hasPrefix k [71,78,85,46,115,112,97,114,115,101,46]=true->R3 (H.st R).m R H.typ k=none:=λk h1 h2=>A8I ht (A4d H R h1) h2;have n1:=AQ A2d (by decide) (by decide);have n2:=AQ A2e (by decide) (by decide);have n3:=AQ A9D (by decide) (by decide);have n4:=AQ B7F (by decide) (by decide);have n5:=AQ B7E (by decide) (by decide)
   have AS:A4j L:=λp hp=>by
    have h:=Ac p hp;refine⟨(hg.val p.1 p.2 h).1,λe=> ?_,λe=> ?_⟩
    ·rw[e,n4] at h;cases h
    ·rw[e,n5] at h;cases h
   have AZ:0< (D7 L).length:=by
    obtain⟨p,L',rfl⟩:=List.exists_cons_of_ne_nil Ag;rw[T7,List.length_append,P7]
    have:=A0y p.1 p.2 (by
     have h:=M7 (AS p (by simp)).1;exact List.length_pos_iff.2 h.1)
    omega
   have AR: (Rb.bytes++D7 L++List.replicate (E7 (D7 L).length).toNat 0++B2.bytes)=Rb.bytes++(D7 L++(List.replicate (E7 (D7 L).length).toNat 0++B2.bytes)):=by simp[List.append_assoc]
   have AY: (Rb.bytes++D7 L++List.replicate (E7 (D7 L).length).toNat 0++B2.bytes).length=512+(D7 L).length+(E7 (D7 L).length).toNat+512:=by
    simp only[List.length_append,List.length_replicate,AU,Ad]
   have AC: (mrg (O7 B2 (pV H)) (A3I H R) (λk=>(E0 (λ_=>none) L k).isSome))= {H with xattr:= .map none,recs:= .map none,fmt:=6}:=by rw[AH];exact AA
   have Ai: ((Rb.bytes++D7 L++List.replicate (E7 (D7 L).length).toNat 0++B2.bytes).drop 0).take 512=Rb.bytes:=by
    rw[AR,List.drop_zero,List.take_left' AU]
   have Aj: ((Rb.bytes++D7 L++List.replicate (E7 (D7 L).length).toNat 0++B2.bytes).drop (0+512)).take (D7 L).length=D7 L:=by
    rw[AR,Nat.zero_add];have:=A7G Rb.bytes (D7 L) (List.replicate (E7 (D7 L).length).toNat 0++B2.bytes) _ rfl;rwa [AU] at this
   have Ak: ((Rb.bytes++D7 L++List.replicate (E7 (D7 L).length).toNat 0++B2.bytes).drop (0+512+(D7 L).length+(E7 (D7 L).length).toNat)).take 512=B2.bytes:=by
    have:=A7G (Rb.bytes++D7 L++List.replicate (E7 (D7 L).length).toNat 0) B2.bytes [] 512 Ad;rw[List.append_nil] at this
    have hl: (Rb.bytes++D7 L++List.replicate (E7 (D7 L).length).toNat 0).length=0+512+(D7 L).length+(E7 (D7 L).length).toNat:=by
     simp only[List.length_append,List.length_replicate,AU]<;>omega
    rwa [hl] at this
   generalize Au: (Rb.bytes++D7 L++List.replicate (E7 (D7 L).length).toNat 0++B2.bytes)=bs at*;refine(A1N w g o bs.length c (0+512+(D7 L).length+(E7 (D7 L).length).toNat+512) bs aE B2 (λmb=> {H.rd 4 with recs:= .map (some mb)}) (R3 (H.st R).m R H.typ) (if D1 H.typ then 0 else H.size) AL rfl (by omega) (by omega) hE (λmb=>hg.inO 4 (.inr (.inl rfl)) _) ?_).mono ?_
   ·intro w' tr r g' c' fr hr AM ht AP AD AO AI AJ
    refine(B7M w' tr r g' _ c' 0 fr (D7 L).length (E7 (D7 L).length).toNat bs A0d aE Rb B2 _ (pV H) L (A3I H R) _ Aq AE hr AM ht (by omega) (by omega) (by omega) (by omega) AP rfl AD AO Ai Aj Ak AI AJ (Aa.typ_back (by omega)) rfl AZ Ah AS (by rw[AH];exact hg.mok) (by rw[AH];exact n1) (by rw[AH];exact n2) (by rw[AH];exact n3) (by rw[AG];exact AT) _ rfl _ rfl AW.1 AW.2 ?_ Ar As).mono ?_
    ·rw[AC]
    ·rintro e Ae ⟨mb,h⟩
     rw[AC,AH] at h;exact⟨mb,h⟩
   ·rintro e w' ⟨mb,rv,L2,rfl,h3,h4,h5⟩
    exact⟨rv,L2,4,_,rfl,h3,h4,.inl rfl,hg.recl_len h4,h5⟩
 ·exact B5P w g o c _ aE H R AB hg (Am hf AX) B2 X Y An hX hY rfl AL hE
theorem A0K (l:List UInt8) (k:Nat) (h:k<l.length) (wx:World): (Instr.index 9 (str l) (.int .i64 k)).run Tryz.prog wx= .ok (.int .u8 l[k].toNat) wx:=by
 rw[run_index_string (P:=Tryz.prog) (w:=wx) 9 ⟨l.toArray⟩ .i64 k Tryz.underlying9,dif_pos ⟨by omega,by rw[I6];omega⟩];rfl
theorem B4e (l:List UInt8) (w:World) (hl:l.length<4611686018427387904):Calls Tryz.prog 82 #[str l] w (C4 w (.bool (decide (0∈l)))):=by
 go_enter Tryz.func82,Tryz.ntmps82
 go_wp2_with fail
 go_loop [6] (λi=>∃k:Nat,k<=l.length/\(∀j,j<k->l[j]?≠some 0)/\i= .int .i64 k) (λi=>l.length- (intOf i).toNat)
 case atStart=>exact⟨0,Nat.zero_le _,λj h=>by omega,rfl⟩
 case round=>
  obtain⟨k,hk,hb,rfl⟩:=hrel;by_cases AA:k<l.length
  ·have AB: (k:Int)<l.length:=by omega
   have hx:=A0K l k AA;have h0:=A0 hb;clear hb;by_cases hc:l[k]=0
   ·rw[hc] at hx
    go_wp2_with fail
    go_ret
    exact⟨by rw[decide_eq_true (hc▸List.getElem_mem AA)];rfl,rfl⟩
   ·have AC:l[k].toNat≠0:=λe=>hc (UInt8.toNat_inj.1 e)
    have HC:=A0 (show l[k]?≠some 0 by rw[List.getElem?_eq_getElem AA];simpa using hc);generalize l[k]=c at*;go_wp2_with fail
    go_round
    case rel=>exact⟨k+1,by omega,λj hj=>if h:j=k then h▸HC.out else h0.out j (by omega),by go_num⟩
    case measure=>simp[intOf];omega
  ·have AB:¬(k:Int)<l.length:=by omega
   have h0:=A0 hb;clear hb;go_wp2_with fail
   go_ret
   refine⟨?_,rfl⟩
   rw[decide_eq_false (λhm=>by
    obtain⟨j,hj,e⟩:=List.getElem_of_mem hm;exact h0.out j (by omega) (by rw[List.getElem?_eq_getElem hj,e]))];rfl
theorem B1N (l:List UInt8) (w:World) (hl:l.length<4611686018427387904):Calls Tryz.prog 83 #[str l] w (C4 w (.bool (D6 l))):=by
 go_enter Tryz.func83,Tryz.ntmps83
 go_wp2_with fail
 go_loop [6] (λi=>∃k:Nat,k<=l.length/\(∀j x,j<k->l[j]?=some x->A2a x=true)/\i= .int .i64 k) (λi=>l.length- (intOf i).toNat)
 case atStart=>exact⟨0,Nat.zero_le _,λj x h=>by omega,rfl⟩
 case round=>
  obtain⟨k,hk,hb,rfl⟩:=hrel;by_cases AB:k<l.length
  ·have AC: (k:Int)<l.length:=by omega
   have hx:=A0K l k AB;have h0:=A0 hb;have HK:=A0 (List.getElem?_eq_getElem AB)
   have AA:A2a l[k]=false->D6 l=false:=λe=>by
    rw[Bool.eq_false_iff];intro h;have:=(A1J l).1 h k l[k] (List.getElem?_eq_getElem AB);rw[e] at this;cases this
   have HB:=A0 AA;clear hb AA;generalize l[k]=c at*;by_cases h1:128<=c.toNat
   ·have h2: (128:Int)<=c.toNat:=by omega
    go_wp2_with fail
    go_ret
    exact⟨by rw[HB.out (by simp[A2a];omega)];rfl,rfl⟩
   ·have h2:¬(128:Int)<=c.toNat:=by omega
    by_cases hc:c=0
    ·subst hc
     go_wp2_with fail
     go_ret
     exact⟨by rw[HB.out (by decide)];rfl,rfl⟩
    ·have AD:c.toNat≠0:=λe=>hc (UInt8.toNat_inj.1 e)
     have HC:=A0 (show A2a c=true by simp[A2a];omega);go_wp2_with fail
     go_round
     case rel=>exact⟨k+1,by omega,λj x hj hy=>if h:j=k then by rw[h,HK.out] at hy;cases hy;exact HC.out else h0.out j x (by omega) hy,by go_num⟩
     case measure=>simp[intOf];omega
  ·have AC:¬(k:Int)<l.length:=by omega
   have h0:=A0 hb;clear hb;go_wp2_with fail
   go_ret
   refine⟨?_,rfl⟩;rw[(A1J l).2 (λj x hx=>h0.out j x (by have:=(List.getElem?_eq_some_iff.1 hx).1;omega) hx)];rfl
def J7 (b:Bool):Int:=if b then 1 else 2
theorem K6 (b:Bool) (w:World):Calls Tryz.prog 55 #[.bool b] w (C4 w (.int .i64 (J7 b))):=by
 cases b
 all_goals
  go_enter Tryz.func55,Tryz.ntmps55
  go_wp2_with fail
  go_ret
  exact⟨rfl,rfl⟩
def A4u (t:Int):Bool:=decide (t<49)||decide (54<t)
theorem A2C (t:Int) (w:World):Calls Tryz.prog 44 #[.int .u8 t] w (C4 w (.bool (A4u t))):=by
 by_cases h1:t<49<;>by_cases h2:54<t
 all_goals
  go_enter Tryz.func44,Tryz.ntmps44
  go_wp2_with fail
  go_ret
  exact⟨by simp[A4u,h1,h2],rfl⟩
def B1g (p:Prop) (w:World) (e:Ending) (w':World):Prop:=∃b,e= .returned (.bool b)/\Below w.heap.size w w'/\(b=false->p)
def A5y (p:Prop) (w:World) (e:Ending) (w':World):Prop:=∃b,e= .returned (.bool b)/\Below w.heap.size w w'/\(b=true->p)
def P9 (p:Prop) (w:World) (e:Ending) (w':World):Prop:=∃v,e= .returned (.int .i64 v)/\Below w.heap.size w w'/\(v=0\/v=1\/v=2)/\(v=1->p)
theorem L9 (b:Bool):J7 b=0\/J7 b=1\/J7 b=2:=by cases b<;>decide
def O9 (s n:Int):Prop:=0<=n/\n<=999999999/\(s= -62135596800->n≠0)
theorem A4b (s n:Int) (w:World):Calls Tryz.prog 52 #[.agg #[.int .i64 s,.int .i64 n]] w (B1g (O9 s n) w):=by
 have a1:=heap_alloc_new w (.cells #[.int .i64 s,.int .i64 n] 28);have c0: (w.alloc (.cells #[.int .i64 s,.int .i64 n] 28)).cell? ⟨w.heap.size,0,none⟩=some (.int .i64 s):=by rw[Lib.cell_of_heap a1];rfl
 have c1: (w.alloc (.cells #[.int .i64 s,.int .i64 n] 28)).cell? ⟨w.heap.size,1,none⟩=some (.int .i64 n):=by rw[Lib.cell_of_heap a1];rfl
 have hb:=A0 (λo=>(Below.refl w.heap.size w).alloc (Nat.le_refl _) o);clear a1;by_cases h1:s= -62135596800<;>by_cases h2:n=0<;>by_cases h3:n<0<;>by_cases h4:999999999<n
 all_goals first|(exfalso;omega)|skip
 all_goals
  go_enter Tryz.func52,Tryz.ntmps52
  go_wp2_with fail
  go_ret
  refine⟨_,rfl,hb.out _,λh=> ?_⟩;first|(refine absurd h ?_;simp;done)|(unfold O9;refine⟨?_,?_,λh=> ?_⟩<;>omega)
def M0 (n f:Int) (p:Bool):Prop:=0<=n/\(f=3->n<72057594037927936)/\(f≠3->(f=2/\p=true)\/n<2097152)
def M1 (s n f:Int):Prop:= -100000000000000000<=s/\s<=100000000000000000/\(f≠2->n=0)
theorem A1B (n f:Int) (p:Bool) (w:World):Calls Tryz.prog 59 #[.int .i64 n,.int .i64 f,.bool p] w (P9 (M0 n f p) w):=by
 by_cases h3:f=3
 ·subst h3
  by_cases h1:n<0<;>by_cases h2:72057594037927936<=n<;>by_cases h4:n<144115188075855872<;>by_cases h5:n<72057594037927936
  all_goals first|(exfalso;omega)|skip
  all_goals
   go_enter Tryz.func59,Tryz.ntmps59
   go_wp2_with (go_at_call 55;refine(K6 _ _).mono ?_;rintro e w' ⟨rfl,rfl⟩)
   go_ret
   refine⟨_,rfl,Below.refl _ _,by first|decide|exact L9 _,λh=> ?_⟩;first|(refine absurd h ?_;simp[J7];done)|(unfold M0;refine⟨?_,λ_=> ?_,λh=>absurd rfl h⟩<;>omega)
 ·have e3: (f==3)=false:=by simpa using h3
  by_cases h2:f=2
  ·subst h2
   cases p<;>by_cases h1:n<0<;>by_cases h4:0<=n<;>by_cases h5:n<2097152
   all_goals first|(exfalso;omega)|skip
   all_goals
    go_enter Tryz.func59,Tryz.ntmps59
    go_wp2_with (go_at_call 55;refine(K6 _ _).mono ?_;rintro e w' ⟨rfl,rfl⟩)
    go_ret
    refine⟨_,rfl,Below.refl _ _,by first|decide|exact L9 _,λh=> ?_⟩;first|(refine absurd h ?_;simp[J7];done)|(unfold M0;refine⟨?_,λh=> ?_,λ_=> .inl ⟨rfl,?_⟩⟩<;>first|omega|rfl)|(unfold M0;refine⟨?_,λh=> ?_,λ_=> .inr ?_⟩<;>omega)
  ·have e2: (f==2)=false:=by simpa using h2
   by_cases h4:0<=n<;>by_cases h5:n<2097152
   all_goals first|(exfalso;omega)|skip
   all_goals
    go_enter Tryz.func59,Tryz.ntmps59
    go_wp2_with (go_at_call 55;refine(K6 _ _).mono ?_;rintro e w' ⟨rfl,rfl⟩)
    go_ret
    refine⟨_,rfl,Below.refl _ _,by first|decide|exact L9 _,λh=> ?_⟩;first|(refine absurd h ?_;simp[J7];done)|(unfold M0;refine⟨?_,λh=> ?_,λ_=> .inr ?_⟩<;>omega)
theorem W2 (s n f:Int) (w:World):Calls Tryz.prog 60 #[.agg #[.int .i64 s,.int .i64 n],.int .i64 f] w (P9 (M1 s n f) w):=by
 have a1:=heap_alloc_new w (.cells #[.int .i64 s,.int .i64 n] 28);have c0: (w.alloc (.cells #[.int .i64 s,.int .i64 n] 28)).cell? ⟨w.heap.size,0,none⟩=some (.int .i64 s):=by rw[Lib.cell_of_heap a1];rfl
 have c1: (w.alloc (.cells #[.int .i64 s,.int .i64 n] 28)).cell? ⟨w.heap.size,1,none⟩=some (.int .i64 n):=by rw[Lib.cell_of_heap a1];rfl
 have hb:=A0 (λo=>(Below.refl w.heap.size w).alloc (Nat.le_refl _) o);clear a1;by_cases h1:100000000000000000<s<;>by_cases h2:s< -100000000000000000<;>by_cases h3:f=2<;>by_cases h4:n=0
 all_goals first|(exfalso;omega)|skip
 all_goals
  go_enter Tryz.func60,Tryz.ntmps60
  go_wp2_with fail
  all_goals go_ret
  all_goals refine⟨_,rfl,hb.out _,by decide,λh=> ?_⟩
  all_goals first|(refine absurd h ?_;simp;done)|(exfalso;simp_all;done)|(unfold M1;refine⟨?_,?_,λh=> ?_⟩<;>omega)
def A0V (l:List UInt8):Bool:=l.getLast?==some 47
theorem A4F (l:List UInt8) (w:World) (hl:l.length<4611686018427387904):Calls Tryz.prog 53 #[str l] w (C4 w (.bool (A0V l))):=by
 cases hn:l with
 |nil=>
  go_enter Tryz.func53,Tryz.ntmps53
  go_wp2_with fail
  go_ret
  exact⟨rfl,rfl⟩
 |cons c r=>
  rw[<-hn];have hp:0<l.length:=by rw[hn];simp
  have hx:=A0K l (l.length-1) (by omega)
  have hs:A0V l=(l[l.length-1].toNat==47):=by
   rw[A0V,List.getLast?_eq_getElem?,List.getElem?_eq_getElem (by omega)];rw[Bool.eq_iff_iff];simp only[beq_iff_eq,Option.some.injEq];exact⟨λe=>by rw[e];rfl,λe=>UInt8.toNat_inj.1 e⟩
  have hw:IntKind.i64.wrap ((l.length:Int)-1)=((l.length-1:Nat):Int):=by rw[IntWalk.i64_in _ (by omega)];omega
  have AD:l.isEmpty=false:=by rw[hn];rfl
  have HN:=A0 hn;rw[hs];clear hs hn;generalize l[l.length-1]=x at*;by_cases AB:x.toNat=47
  ·have AA: (x.toNat==47)=true:=by simp[AB]
   rw[AA];go_enter Tryz.func53,Tryz.ntmps53
   go_wp2_with fail
   go_ret
   exact⟨rfl,rfl⟩
  ·have AA: (x.toNat==47)=false:=by simp[AB]
   have AC:¬(x.toNat:Int)=47:=by omega
   rw[AA];go_enter Tryz.func53,Tryz.ntmps53
   go_wp2_with fail
   go_ret
   exact⟨by show Ending.returned (.bool ((x.toNat:Int)==47))=_;rw[show((x.toNat:Int)==47)=false by simpa using AC],rfl⟩
def A9y (l:List UInt8) (n:Int):Prop:=n=0\/(1<=n/\n<=l.length/\n<=4/\∀j:Nat,0<j->(j:Int)<n->l[j]?≠some 0)
def B6u (l:List UInt8) (w:World) (e:Ending) (w':World):Prop:=∃n,e= .returned (.int .i64 n)/\w=w'/\A9y l n
theorem B1S (l:List UInt8) (w:World) (hl:l.length<4611686018427387904) (h0:0<l.length):Calls Tryz.prog 50 #[str l] w (B6u l w):=by
 go_enter Tryz.func50,Tryz.ntmps50
 go_upto_block 0 with fail
 have e0:wrap64 (({data:=l.toArray}:ByteArray)[0]'(by rw[I6];exact h0)).toNat=(l[0].toNat:Int):=by
  have:=l[0].toNat_lt;show wrap64 (l[0].toNat:Int)=_
  unfold wrap64;omega
 simp only[e0];have e1:∀ (h:0< (⟨l.toArray⟩:ByteArray).size),(⟨l.toArray⟩:ByteArray)[0]=l[0]:=λh=>rfl;simp only[e1];clear e0 e1;generalize l[0]=c at*;go_cut [4,5,6] (λs4 s5 s6 wx=>(∃n:Nat,(n=0\/n=2\/n=3\/n=4)/\s4= .int .i64 n)/\(∃x,s5= .int .i64 x)/\(∃y,s6= .int .i64 y)/\wx=w)
 case first=>
  by_cases h1: (c.toNat:Int)<128
  ·go_wp2_with fail
   go_ret
   exact⟨1,rfl,rfl,.inr ⟨by omega,by omega,by omega,λj h1 h2=>by omega⟩⟩
  ·by_cases h2: (194:Int)<=c.toNat<;>by_cases h3: (c.toNat:Int)<224<;>by_cases h4: (c.toNat:Int)<240<;>by_cases h5: (c.toNat:Int)<245<;>by_cases h6: (224:Int)<=c.toNat<;>by_cases h7: (240:Int)<=c.toNat
   all_goals first|(exfalso;omega)|skip
   all_goals
    go_wp2_with fail
   all_goals go_meet
   all_goals exact⟨⟨_,by first|exact .inl rfl|exact .inr (.inl rfl)|exact .inr (.inr (.inl rfl))|exact .inr (.inr (.inr rfl)),rfl⟩,⟨_,rfl⟩,⟨_,rfl⟩,rfl⟩
 case rest=>
  obtain⟨⟨n,hn,rfl⟩,⟨x,rfl⟩,⟨y,rfl⟩,rfl⟩:=hcut;rcases Nat.eq_zero_or_pos n with rfl|hp
  ·go_wp2_with fail
   go_ret
   exact⟨0,rfl,rfl,.inl rfl⟩
  ·have AH: (2:Int)<=n/\(n:Int)<=4:=by omega
   have hz:¬(n:Int)=0:=by omega
   clear hn;by_cases AC: (l.length:Int)<n
   ·go_wp2_with fail
    go_ret
    exact⟨0,rfl,rfl,.inl rfl⟩
   ·go_wp2_with fail
    go_loop [7,5] (λs7 s5=>∃ (k:Nat) (x:Int),1<=k/\k<=n/\(∀j:Nat,0<j->j<k->l[j]?≠some 0)/\s7= .int .i64 k/\s5= .int .i64 x) (λs7 _=>n- (intOf s7).toNat)
    case atStart=>exact⟨1,_,by omega,by omega,λj h1 h2=>by omega,rfl,rfl⟩
    case round=>
     obtain⟨k,x,AD,AE,hb,rfl,rfl⟩:=hrel;have HB:=A0 hb;clear hb;by_cases AG: (k:Int)<n
     ·have AA:k<l.length:=by omega
      have AI:=A0K l k AA;have HK:=A0 (List.getElem?_eq_getElem AA);generalize l[k]=d at*;by_cases hd:d=0
      ·subst hd
       go_wp2_with fail
       go_ret
       exact⟨0,rfl,rfl,.inl rfl⟩
      ·have HD:=A0 hd
       clear hd;go_wp2_with fail
       ·go_ret
        exact⟨0,rfl,rfl,.inl rfl⟩
       ·go_round
        case rel=>exact⟨k+1,_,by omega,by omega,λj h1 h2=>if h:j=k then by rw[h,HK.out];exact λe=>HD.out (by injection e) else HB.out j h1 (by omega),by go_num,rfl⟩
        case measure=>simp[intOf];omega
     ·have AB:k=n:=by omega
      subst AB;have HR:=A0 (show A9y l (k:Int) from .inr ⟨by omega,by omega,by omega,λj h1 h2=>HB.out j h1 (by omega)⟩);go_wp2_with fail
      all_goals go_ret
      all_goals first|exact⟨0,rfl,rfl,.inl rfl⟩|exact⟨(k:Int),rfl,rfl,HR.out⟩
theorem A5P (l:List UInt8) (w:World) (hl:l.length<4611686018427387904):Calls Tryz.prog 21 #[str l] w (A5y ((0:UInt8)∉l) w):=by
 go_enter Tryz.func21,Tryz.ntmps21
 go_wp2_with fail
 go_loop [3] (λs3=>∃k:Nat,k<=l.length/\(∀j:Nat,j<k->l[j]?≠some 0)/\s3= .int .i64 k) (λs3=>l.length- (intOf s3).toNat)
 case atStart=>exact⟨0,by omega,λj h=>by omega,rfl⟩
 case round=>
  obtain⟨k,hk,hb,rfl⟩:=hrel;have HB:=A0 hb;clear hb;by_cases AI: (k:Int)<l.length
  ·have AB:k<l.length:=by omega
   have hx:=A0K l k AB;have HK:=A0 (List.getElem?_eq_getElem AB);generalize l[k]=c at*;have AD:=B1S (l.drop k) w (by rw[List.length_drop];omega) (by rw[List.length_drop];omega)
   have AC: (⟨l.toArray⟩:ByteArray).extract k l.length=⟨(l.drop k).toArray⟩:=by
    rw[L3,List.take_of_length_le (by rw[List.length_drop];omega)]
   have AA:Calls Tryz.prog 50 #[.string ((⟨l.toArray⟩:ByteArray).extract k l.length)] w (B6u (l.drop k) w):=by rw[AC];exact AD
   clear AC AD;go_wp2_with fail
   refine AA.mono ?_;clear AA;rintro e w' ⟨n,rfl,rfl,hn⟩;rcases hn with rfl|⟨h1,h2,h3,h4⟩
   ·go_wp2_with fail
    go_ret
    exact⟨false,rfl,Below.refl _ _,λh=>by cases h⟩
   ·obtain⟨m,rfl⟩:∃m:Nat,n=m:=⟨n.toNat,by omega⟩
    rw[List.length_drop] at h2;have HN:=A0 h4;have AJ: ((m:Int)==0)=false:=by rw[beq_eq_false_iff_ne];omega
    have h5: (k:Int)+m<=l.length:=by omega
    clear h4 h2;by_cases hc:c=0
    ·subst hc
     go_wp2_with fail
     go_ret
     exact⟨false,rfl,Below.refl _ _,λh=>by cases h⟩
    ·have AH: ((c.toNat:Int)==0)=false:=by rw[beq_eq_false_iff_ne];exact λe=>hc (UInt8.toNat_inj.1 (by simpa using e))
     have HC:=A0 hc;clear hc;go_wp2_with fail
     go_round
     case rel=>
      refine⟨k+m,by omega,λj hj=> ?_,by go_num⟩;by_cases AE:j<k
      ·exact HB.out j AE
      ·by_cases AG:j=k
       ·rw[AG,HK.out];exact λe=>HC.out (by injection e)
       ·have:=HN.out (j-k) (by omega) (by omega)
        rw[List.getElem?_drop,show k+(j-k)=j by omega] at this;exact this
     case measure=>simp[intOf];omega
  ·go_wp2_with fail
   go_ret
   exact⟨true,rfl,Below.refl _ _,λ_ hm=>by
    obtain⟨j,hj,e⟩:=List.getElem_of_mem hm;exact HB.out j (by omega) (by rw[List.getElem?_eq_getElem hj,e])⟩
def A0A (s:List UInt8) (n f:Int):Prop:=(0:UInt8)∉s/\(f=1->D6 s=true/\s.length<=n)
theorem A5O (s:List UInt8) (n f:Int) (w:World) (hl:s.length<4611686018427387904):Calls Tryz.prog 54 #[str s,.int .i64 n,.int .i64 f] w (P9 (A0A s n f) w):=by
 have AA:=B4e s w hl;by_cases hz: (0:UInt8)∈s
 ·rw[decide_eq_true hz] at AA
  go_enter Tryz.func54,Tryz.ntmps54
  go_wp2_with fail
  refine AA.mono ?_;rintro e w' ⟨rfl,rfl⟩;go_wp2_with fail
  go_ret
  exact⟨0,rfl,Below.refl _ _,by decide,λh=>by cases h⟩
 ·rw[decide_eq_false hz] at AA
  have HZ:=A0 hz;clear hz;by_cases h1:f=1
  ·subst h1
   have AB:=B1N s w hl;go_enter Tryz.func54,Tryz.ntmps54
   go_wp2_with fail
   refine AA.mono ?_;rintro e w' ⟨rfl,rfl⟩;cases ha:D6 s with
   |false=>
    rw[ha] at AB;go_wp2_with fail
    refine AB.mono ?_;rintro e w' ⟨rfl,rfl⟩;go_wp2_with (go_at_call 55;refine(K6 _ _).mono ?_;rintro e w' ⟨rfl,rfl⟩)
    go_ret
    exact⟨2,rfl,Below.refl _ _,by decide,λh=>by cases h⟩
   |true=>
    rw[ha] at AB;have HA:=A0 ha;clear ha;by_cases hn: (s.length:Int)<=n
    ·have HT:=A0 (show A0A s n 1 from⟨HZ.out,λ_=>⟨HA.out,hn⟩⟩)
     go_wp2_with fail
     refine AB.mono ?_;rintro e w' ⟨rfl,rfl⟩;go_wp2_with (go_at_call 55;refine(K6 _ _).mono ?_;rintro e w' ⟨rfl,rfl⟩)
     go_ret
     exact⟨1,rfl,Below.refl _ _,by decide,λ_=>HT.out⟩
    ·go_wp2_with fail
     refine AB.mono ?_;rintro e w' ⟨rfl,rfl⟩;go_wp2_with (go_at_call 55;refine(K6 _ _).mono ?_;rintro e w' ⟨rfl,rfl⟩)
     go_ret
     exact⟨J7 (decide ((s.length:Int)<=n)),rfl,Below.refl _ _,L9 _,λh=>absurd h (by rw[decide_eq_false (by omega)];decide)⟩
  ·have HT:=A0 (show A0A s n f from⟨HZ.out,λh=>absurd h h1⟩)
   have AC:=A5P s w hl;by_cases h2:f=2
   ·subst h2
    go_enter Tryz.func54,Tryz.ntmps54
    go_wp2_with fail
    refine AA.mono ?_;rintro e w' ⟨rfl,rfl⟩;go_wp2_with fail
    refine AC.mono ?_;rintro e w' ⟨b,rfl,hb,-⟩;have HB:=A0 hb;clear hb;cases b
    all_goals
     go_wp2_with fail
     go_ret
     first|exact⟨0,rfl,HB.out,by decide,λh=>by cases h⟩|exact⟨1,rfl,HB.out,by decide,λ_=>HT.out⟩
   ·go_enter Tryz.func54,Tryz.ntmps54
    go_wp2_with fail
    refine AA.mono ?_;rintro e w' ⟨rfl,rfl⟩;go_wp2_with fail
    go_ret
    exact⟨1,rfl,Below.refl _ _,by decide,λ_=>HT.out⟩
theorem M8 (xs:List Int) (g c:Nat) (w:World) (AD:At w g 0 (xs.map (.int .i64))) (h3:∀x∈xs,x=0\/x=1\/x=2) (hl:xs.length<=100):Calls Tryz.prog 57 #[.slice (some ⟨g,0,none⟩) xs.length c] w (P9 (∀x∈xs,x=1) w):=by
 have AE:=A0 AD;have H3:=A0 h3;clear AD h3;go_enter Tryz.func57,Tryz.ntmps57
 go_wp2_with fail
 go_loop [8,3] (λs8 s3=>∃ (k:Nat) (v:Int),k<=xs.length/\(v=0\/v=1\/v=2)/\(v=1->∀ (j:Nat) x,j<k->xs[j]?=some x->x=1)/\s8= .int .i64 k/\s3= .int .i64 v) (λs8 _=>xs.length- (intOf s8).toNat)
 case atStart=>exact⟨0,1,by omega,by decide,λ_ j x h=>by omega,rfl,rfl⟩
 case round=>
  obtain⟨k,v,hk,hv,hb,rfl,rfl⟩:=hrel;have HB:=A0 hb;clear hb;by_cases AH: (k:Int)<xs.length
  ·have AC:k<xs.length:=by omega
   have hc:=AE.out k (.int .i64 xs[k]) (by rw[List.getElem?_map,List.getElem?_eq_getElem AC];rfl);rw[Nat.zero_add] at hc;have HK:=A0 (List.getElem?_eq_getElem AC);have hx:=H3.out xs[k] (List.getElem_mem AC);generalize xs[k]=y at*
   have AA: (y=1\/v≠1)->Hid (v=1->∀ (j:Nat) x,j<k+1->xs[j]?=some x->x=1):=λhy=>A0 λh1 j x hj hx=>by
    by_cases h:j=k
    ·rw[h,HK.out] at hx
     injection hx with hx
     rw[<-hx];rcases hy with hy|hy
     ·exact hy
     ·exact absurd h1 hy
    ·exact HB.out h1 j x (by omega) hx
   have AB:=A0 AA;clear AA;rcases hx with rfl|rfl|rfl<;>rcases hv with rfl|rfl|rfl
   all_goals
    go_wp2_with fail
    go_round
    case rel=>first|exact⟨k+1,_,by omega,by decide,(AB.out (by decide)).out,by go_num,rfl⟩|exact⟨k+1,_,by omega,by decide,λh=>absurd h (by decide),by go_num,rfl⟩
    case measure=>simp[intOf];omega
  ·have AG:k=xs.length:=by omega
   subst AG;go_wp2_with fail
   go_ret
   exact⟨v,rfl,Below.refl _ _,hv,λh x hx=>by
    obtain⟨j,hj,e⟩:=List.getElem_of_mem hx;exact HB.out h j x hj (by rw[List.getElem?_eq_getElem hj,e])⟩
def Y6 (s:List UInt8) (f:Int):Prop:=(0:UInt8)∉s/\(f=1->D6 s=true/\s.length<=32)/\(f=3->s.length<=32)/\(f≠2->s.length≠32)
theorem O5 (w:World) (cs:List Value) (T:TypeId):At (w.alloc (.cells cs.toArray T)) w.heap.size 0 cs:=
 At.of_heap (heap_alloc_new w _) (λj u hj=>by rw[Nat.zero_add,List.getElem?_toArray];exact hj)
theorem A6S (s:List UInt8) (f:Int) (w:World) (hl:s.length<4611686018427387904):Calls Tryz.prog 58 #[str s,.int .i64 f] w (P9 (Y6 s f) w):=by
 have ht:=A0 (A5O s 32 f w hl)
 have AH:∀ (v:Int) (w1 w2:World),Below w.heap.size w w1->Below (w1.alloc (.cells #[.int .i64 v,.int .i64 0] 3)).heap.size (w1.alloc (.cells #[.int .i64 v,.int .i64 0] 3)) w2->Below w.heap.size w w2:=λv w1 w2 h1 h2=>
  (h1.alloc h1.size _).trans (h2.mono (Nat.le_trans h1.size (by simp)))
 have AG:=A0 AH;clear AH;by_cases h3:f=3
 ·subst h3
  by_cases hg: (32:Int)<s.length
  ·go_enter Tryz.func58,Tryz.ntmps58
   go_wp2_with fail
   refine ht.out.mono ?_;rintro e w1 ⟨v,rfl,hb,hv,hp⟩;have HB:=A0 hb;have HP:=A0 hp;clear hb hp ht;go_wp2_with fail
   go_ret
   exact⟨2,rfl,HB.out,by decide,λh=>absurd h (by decide)⟩
  ·by_cases he: (s.length:Int)=32
   ·go_enter Tryz.func58,Tryz.ntmps58
    go_wp2_with fail
    refine ht.out.mono ?_;rintro e w1 ⟨v,rfl,hb,hv,hp⟩;have HB:=A0 hb;have HP:=A0 hp;clear hb hp ht;go_wp2_with fail
    refine(M8 [v,0] w1.heap.size 2 _ (O5 w1 [.int .i64 v,.int .i64 0] 3) (by intro x hx;simp at hx;omega) (by simp)).mono ?_;rintro e w2 ⟨v2,rfl,AA,AE,AB⟩;have AC:=A0 AA;have AD:=A0 AB;clear AA AB;go_wp2_with fail
    go_ret
    exact⟨v2,rfl,AG.out _ _ _ HB.out AC.out,AE,λh=>absurd (AD.out h 0 (by simp)) (by decide)⟩
   ·have HK:Hid (A0A s 32 3->Y6 s 3):=A0 λh=>⟨h.1,λe=>⟨(h.2 e).1,by have:=(h.2 e).2;omega⟩,λe=>by omega,λe=>by omega⟩
    go_enter Tryz.func58,Tryz.ntmps58
    go_wp2_with fail
    refine ht.out.mono ?_;rintro e w1 ⟨v,rfl,hb,hv,hp⟩;have HB:=A0 hb;have HP:=A0 hp;clear hb hp ht;go_wp2_with fail
    go_ret
    exact⟨v,rfl,HB.out,hv,λh=>HK.out (HP.out h)⟩
 ·by_cases h2:f=2
  ·subst h2
   have HK:Hid (A0A s 32 2->Y6 s 2):=A0 λh=>⟨h.1,λe=>⟨(h.2 e).1,by have:=(h.2 e).2;omega⟩,λe=>by omega,λe=>by omega⟩;go_enter Tryz.func58,Tryz.ntmps58
   go_wp2_with fail
   refine ht.out.mono ?_;rintro e w1 ⟨v,rfl,hb,hv,hp⟩;have HB:=A0 hb;have HP:=A0 hp;clear hb hp ht;go_wp2_with fail
   go_ret
   exact⟨v,rfl,HB.out,hv,λh=>HK.out (HP.out h)⟩
  ·by_cases he: (s.length:Int)=32
   ·go_enter Tryz.func58,Tryz.ntmps58
    go_wp2_with fail
    refine ht.out.mono ?_;rintro e w1 ⟨v,rfl,hb,hv,hp⟩;have HB:=A0 hb;have HP:=A0 hp;clear hb hp ht;go_wp2_with fail
    refine(M8 [v,0] w1.heap.size 2 _ (O5 w1 [.int .i64 v,.int .i64 0] 3) (by intro x hx;simp at hx;omega) (by simp)).mono ?_;rintro e w2 ⟨v2,rfl,AA,AE,AB⟩;have AC:=A0 AA;have AD:=A0 AB;clear AA AB;go_wp2_with fail
    go_ret
    exact⟨v2,rfl,AG.out _ _ _ HB.out AC.out,AE,λh=>absurd (AD.out h 0 (by simp)) (by decide)⟩
   ·have HK:Hid (A0A s 32 f->Y6 s f):=A0 λh=>⟨h.1,λe=>⟨(h.2 e).1,by have:=(h.2 e).2;omega⟩,λe=>by omega,λe=>by omega⟩
    have AI: ((s.length:Int)==32)=false:=by simpa using he
    have e2: (f==2)=false:=by simpa using h2
    have e3: (f==3)=false:=by simpa using h3
    go_enter Tryz.func58,Tryz.ntmps58
    go_wp2_with fail
    refine ht.out.mono ?_;rintro e w1 ⟨v,rfl,hb,hv,hp⟩;have HB:=A0 hb;have HP:=A0 hp;clear hb hp ht;go_wp2_with fail
    all_goals go_ret
    all_goals exact⟨v,rfl,HB.out,hv,λh=>HK.out (HP.out h)⟩
end Go.Proofs.YtkanmkcojlefbaaGreatDoor
