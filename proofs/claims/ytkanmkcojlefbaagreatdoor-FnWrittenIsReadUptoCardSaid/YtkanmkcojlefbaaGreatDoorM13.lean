/-
  Part of the proof; holds the texts SRange, Small, Allow0, WUstar.
-/
import Derived.Test.YtkanmkcojlefbaaGreatDoorM12
set_option maxRecDepth 100000
set_option linter.unusedSimpArgs false
set_option linter.unusedVariables false
namespace Go.Proofs.YtkanmkcojlefbaaGreatDoor
open Go.RowKit Go.Maps Go.WideMaps Go.ChangeMaps
def K9 (w:World) (b r n:Nat) (m:List UInt8->Option (List UInt8)) (AA:List UInt8->Bool) (AB:Nat):Prop:=
 ∃ (D:DataW Unit) (left:Lit->Bool),w.ranges Tryz.prog 9 (plainElem Tryz.prog 9) b r n D left AB/\A4i D m/\∀k,left (.string k)=AA k
theorem K9.owns {w:World} {b r n:Nat} {m:List UInt8->Option (List UInt8)} {AA:List UInt8->Bool} {AB:Nat} (h:K9 w b r n m AA AB):M9 w b n m:=by
 obtain⟨D,left,h1,h2,h3⟩:=h;exact⟨D,h1.owns,h2⟩
theorem K9.left_eq {w:World} {b r n:Nat} {m:List UInt8->Option (List UInt8)} {AA:List UInt8->Bool} {AB:Nat} (h:K9 w b r n m AA AB):w.rangeLeft b r=AB:=by
 obtain⟨D,left,h1,h2,h3⟩:=h;exact h1.left_eq
theorem K9.lt {w:World} {b r n:Nat} {m:List UInt8->Option (List UInt8)} {AA:List UInt8->Bool} {AB:Nat} (h:K9 w b r n m AA AB):r<w.heap.size:=by
 obtain⟨D,left,h1,h2,h3⟩:=h;exact h1.lt
theorem K9.block {w w':World} {b r n:Nat} {m:List UInt8->Option (List UInt8)} {AC:List UInt8->Bool} {AE:Nat} (h:K9 w b r n m AC AE) (hb:w'.heap[b]?=w.heap[b]?) (hr:w'.heap[r]?=w.heap[r]?):K9 w' b r n m AC AE:=by
 obtain⟨D,left,⟨es,AA,AB,AD,c0,x1,x2,x3,x4,x5,x6⟩,h2,h3⟩:=h;exact⟨D,left,⟨es,AA,AB,AD,c0,hb.trans x1,x2,x3,x4,hr.trans x5,x6⟩,h2,h3⟩
theorem K9.below {w w':World} {b r n:Nat} {m:List UInt8->Option (List UInt8)} {AA:List UInt8->Bool} {AB:Nat} (h:K9 w b r n m AA AB) (f:Below w.heap.size w w'):K9 w' b r n m AA AB:=
 h.block (f.block b h.owns.lt) (f.block r h.lt)
theorem B3T (s:ByteArray): (Value.string s)=str s.data.toList:=by
 show _=Value.string ⟨s.data.toList.toArray⟩
 rw[Array.toArray_toList]
theorem A1Q {key:Value} {kl:Lit} (h:keyOf Tryz.prog 9 key=some kl):∃k:List UInt8,key=str k/\kl= .string k/\k.length<=maxLen:=by
 cases key<;>simp[keyOf,Tryz.underlying9,mapKey] at h
 rename_i s;obtain⟨hl,rfl⟩:=h;exact⟨s.data.toList,B3T s,rfl,hl⟩
theorem A7B {w:World} {b n:Nat} {D:DataW Unit} (h:w.ownsMap Tryz.prog 9 (plainElem Tryz.prog 9) b n D):Maps.size D<=n:=by
 obtain⟨es,AA,h1,h2,h3,rfl⟩:=h;rw[size_eq,length_sorted];simpa using h3
section
variable {ops:Array Oper} {rest:List Oper} {o:Oper} {a:Act} {Q:Exit->Act->World->Prop}
theorem X3 (w:World) (hg:o.guard=none) (mo:Operand) (AC:o.op=Op.range 127 mo) (b n:Nat) (m:List UInt8->Option (List UInt8)) (hm:a.eval mo= .map (some b)) (h:M9 w b n m)
  (hK:∀w' AB,K9 w' b w.heap.size n m (λk=>(m k).isSome) AB->AB<=n->w.grownBy w' none->w'.heap.size=w.heap.size+1->wpList Tryz.prog ops Q rest (a.put o.dst (.pointer (some ⟨w.heap.size,0,none⟩))) w'):
  wpList Tryz.prog ops Q (o::rest) a w:=by
 obtain⟨D,h1,h2⟩:=h;refine wpList_range_own w hg mo 127 AC 9 9 A4x Tryz.underlying127 (plainElem Tryz.prog 9) b n D hm h1 (λw' r1 r2 r3=>hK w' (Maps.size D) ⟨D,Maps.has D,r1,h2,λk=> ?_⟩ (A7B h1) r2 r3);have:=h2 k;cases AA:m k with
 |none=>rw[AA] at this;show has D _=(m k).isSome;rw[AA];exact this
 |some v=>rw[AA] at this;show has D _=(m k).isSome;rw[AA];exact this.1
theorem Z1 (w:World) (hg:o.guard=none) (it:Operand) (AS:o.op=Op.next it false) (b r n:Nat) (m:List UInt8->Option (List UInt8)) (AA:List UInt8->Bool) (AE:Nat) (AL:a.eval it= .pointer (some ⟨r,0,none⟩)) (h:K9 w b r n m AA AE)
  (AC:AE=0->(∀k,AA k=false)->wpList Tryz.prog ops Q rest (a.put o.dst (.tuple #[.bool false])) w)
  (AD:∀ (k v:List UInt8) (w':World) (AB:Nat),k.length<=maxLen->v.length<=maxLen->AA k=true->m k=some v->K9 w' b r n m (λz=>AA z&& !decide (z=k)) AB->AB<AE->
   Fr w.heap.size [r] w w'->w'.heap.size=w.heap.size->(Instr.entry (.pointer (some ⟨r,0,none⟩))).run Tryz.prog w'= .ok (.tuple #[str k,str v]) w'->wpList Tryz.prog ops Q rest (a.put o.dst (.tuple #[.bool true,str k,str v])) w'):
  wpList Tryz.prog ops Q (o::rest) a w:=by
 obtain⟨D,left,h1,h2,h3⟩:=h
 refine wpList_next_ranges w hg it AS 9 A4x (plainElem Tryz.prog 9) (λl:List UInt8=>str l) (λl:List UInt8=>str l) (λkey kl hk=>by obtain⟨k,rfl,-,-⟩:=A1Q hk;exact⟨k,rfl⟩)
  (λv y hv=>by obtain⟨s,rfl,-,-⟩:=plainElem_string_inv Tryz.underlying9 hv;exact⟨_,B3T s⟩) b r n D left AE AL h1 (λc0 hl=>AC c0 (λk=>by rw[<-h3 k];exact hl _)) ?_
 intro k v kl y w' AB AG AP hv AH AT AQ AJ AV AI;obtain⟨k2,AM,rfl,AO⟩:=A1Q AG
 obtain rfl:k=k2:=by
  have: (⟨k.toArray⟩:ByteArray)=⟨k2.toArray⟩:=by injection AM
  have:=congrArg (λb:ByteArray=>b.data.toList) this;simpa using this
 obtain⟨s,hs,rfl,AW⟩:=plainElem_string_inv Tryz.underlying9 hv;have AU: (⟨v.toArray⟩:ByteArray)=s:=by injection hs
 subst AU
 have AR:m k=some v:=by
  have hk:=h2 k;cases hm:m k with
  |none=>
   rw[hm] at hk;simp only at hk;have h5:=AH .nil;rw[atKey_of_not_has hk] at h5;cases h5
  |some u=>
   rw[hm] at hk;simp only at hk;have h5:=AH .nil;rw[hk.2] at h5;simp at h5;rw[h5]
 have AX:∀z:List UInt8,(left (.string z)&& !(Lit.string z).sameKey (.string k))=(AA z&& !decide (z=k)):=λz=>by
  rw[h3 z];refine congrArg (λb=>AA z&& !b) ?_;by_cases hz:z=k
  ·subst hz;simp[Lit.sameKey]
  ·simp[Lit.sameKey,hz]
 exact AD k v w' AB AO AW (by rw[<-h3 k];exact AP) AR ⟨D,_,AT,h2,AX⟩ AQ (A0w AJ _) AV AI
end
theorem M9.len_run {w:World} {b n:Nat} {m:List UInt8->Option (List UInt8)} (h:M9 w b n m):∃c:Nat,(∀ty,(Builtin.len_ #[127] ty #[.map (some b)]).run Tryz.prog w= .ok (.int .i64 c) w)/\c<=n/\(c=0↔∀k,m k=none):=by
 obtain⟨D,h1,h2⟩:=h;refine⟨Maps.size D,λty=>h1.len Tryz.underlying127 ty,A7B h1,?_,?_⟩
 ·intro h0 k
  obtain⟨es,rfl⟩:=h1.isMap;have:es=[]:=List.eq_nil_of_length_eq_zero h0;subst this;have:=h2 k;cases hm:m k with
  |none=>rfl
  |some v=>rw[hm] at this;exact absurd this.1 (by simp[has_eq])
 ·intro hn
  obtain⟨es,he,AE,hk⟩:=h1.entries A4x;subst he;cases es with
  |nil=>rfl
  |cons p r=>
   exfalso
   obtain⟨AB,AA,h3,F,h4,h5⟩:=h1
   have hp:p∈(AB.toList.map (Go.WideElems.rg Tryz.prog 9 (plainElem Tryz.prog 9))):=by
    have h6: (DataW.map (p::r):DataW Unit)=_:=h5;injection h6 with h6
    rw[<-Go.mem_sorted,<-h6];simp
   obtain⟨k,AC⟩:=fit_keys F p hp;obtain⟨kk,rfl,AD,-⟩:=A1Q AC;have:=h2 kk;rw[hn kk] at this;simp only at this;rw[has_eq,List.any_eq_false] at this;exact this p (by simp) (by rw[AD];simp[Lit.sameKey])
theorem A4B (w:World) (ty:TypeId): (Builtin.len_ #[127] ty #[.map none]).run Tryz.prog w= .ok (.int .i64 0) w:=Maps.len_nil Tryz.underlying127 ty
end Go.Proofs.YtkanmkcojlefbaaGreatDoor
namespace Go.Proofs.YtkanmkcojlefbaaGreatDoor
open Go.RowKit
theorem R6 (w:World) (a:Nat) (u p g u2 p2 g2:Bool) (h:w.heap[a]?=some (.cells #[.int .i64 (fm u p g)] 128 (0,0))):
  Calls Tryz.prog 123 #[.pointer (some ⟨a,0,none⟩),.int .i64 (fm u2 p2 g2)] w (C4 (w.setCell ⟨a,0,none⟩ (.int .i64 (fm (u&&u2) (p&&p2) (g&&g2)))) (.tuple #[])):=by
 have c0:w.cell? ⟨a,0,none⟩=some (.int .i64 (fm u p g)):=by rw[zA h];rfl
 have z0:w.frozen? ⟨a,0,none⟩=false:=zE h 0
 have e:bits .and .i64 (fm u p g) (fm u2 p2 g2)=fm (u&&u2) (p&&p2) (g&&g2):=by
  cases u<;>cases p<;>cases g<;>cases u2<;>cases p2<;>cases g2<;>kernel_rfl
 generalize fm u p g=f at*;generalize fm (u&&u2) (p&&p2) (g&&g2)=f3 at*;generalize fm u2 p2 g2=f2 at*;clear h;go_enter Tryz.func123,Tryz.ntmps123
 go_wp2_with fail
 go_end0
 exact⟨rfl,rfl⟩
theorem B7J (w:World) (a:Nat) (u p g u2 p2 g2:Bool) (h:w.heap[a]?=some (.cells #[.int .i64 (fm u p g)] 128 (0,0))):
  Calls Tryz.prog 127 #[.pointer (some ⟨a,0,none⟩),.int .i64 (fm u2 p2 g2)] w (C4 (w.setCell ⟨a,0,none⟩ (.int .i64 (fm (u||u2) (p||p2) (g||g2)))) (.tuple #[])):=by
 have c0:w.cell? ⟨a,0,none⟩=some (.int .i64 (fm u p g)):=by rw[zA h];rfl
 have z0:w.frozen? ⟨a,0,none⟩=false:=zE h 0
 have e:bits .or .i64 (fm u p g) (fm u2 p2 g2)=fm (u||u2) (p||p2) (g||g2):=by
  cases u<;>cases p<;>cases g<;>cases u2<;>cases p2<;>cases g2<;>kernel_rfl
 generalize fm u p g=f at*;generalize fm (u||u2) (p||p2) (g||g2)=f3 at*;generalize fm u2 p2 g2=f2 at*;clear h;go_enter Tryz.func127,Tryz.ntmps127
 go_wp2_with fail
 go_end0
 exact⟨rfl,rfl⟩
theorem A5o (w:World) (u p g u2 p2 g2:Bool):Calls Tryz.prog 66 #[.int .i64 (fm u p g),.int .i64 (fm u2 p2 g2)] w (C4 w (.bool ((u&&u2)||(p&&p2)||(g&&g2)))):=by
 have e: (bits .and .i64 (fm u p g) (fm u2 p2 g2) !=0)=((u&&u2)||(p&&p2)||(g&&g2)):=by
  cases u<;>cases p<;>cases g<;>cases u2<;>cases p2<;>cases g2<;>kernel_rfl
 cases hb: ((u&&u2)||(p&&p2)||(g&&g2))
 ·rw[hb] at e
  generalize fm u p g=f at*;generalize fm u2 p2 g2=f2 at*;clear hb;go_enter Tryz.func66,Tryz.ntmps66
  go_wp2
  go_ret
  exact⟨rfl,rfl⟩
 ·rw[hb] at e
  generalize fm u p g=f at*;generalize fm u2 p2 g2=f2 at*;clear hb;go_enter Tryz.func66,Tryz.ntmps66
  go_wp2
  go_ret
  exact⟨rfl,rfl⟩
def T9 (l:List UInt8):Bool:=Lib.hasSuffix l [47]
theorem A4w (w:World) (l:List UInt8) (hl:l.length<=4611686018427387904):Calls Tryz.prog 63 #[str l,str [47]] w (C4 w (.bool (T9 l))):=by
 refine(Tryz.strings_HasSuffix ⟨l.toArray⟩ ⟨[47].toArray⟩ w (by rw[I6];omega)).mono ?_;rintro e w' ⟨rfl,rfl⟩;exact⟨by simp[T9],rfl⟩
theorem A4v (w:World) (l p:List UInt8):Calls Tryz.prog 125 #[str l,str p] w (C4 w (.bool (Lib.hasPrefix l p))):=by
 refine(Tryz.strings_HasPrefix ⟨l.toArray⟩ ⟨p.toArray⟩ w).mono ?_;rintro e w' ⟨rfl,rfl⟩;exact⟨by simp,rfl⟩
theorem A0c (w:World) (k v:List UInt8) (hk:k.length<=2305843009213693952) (hv:v.length<=2305843009213693952) (h:F0 k v=true):Calls Tryz.prog 126 #[str k,str v] w (C4 w (.bool true)):=by
 have AC:=(M7 h).1;have AB:=(M7 h).2;have hc:=A4N k 61 w (by omega);rw[zV AB] at hc
 have he:k.isEmpty=false:=by cases k with
  |nil=>exact absurd rfl AC
  |cons a b=>rfl
 have h3: (if k=H0\/k=I3\/k=F8\/k=F7 then !(decide ((0:UInt8)∈v)) else !(decide ((0:UInt8)∈k)))=true:=by
  simp only[F0,Bool.and_eq_true] at h;exact h.2
 by_cases AA:k=H0\/k=I3\/k=F8\/k=F7
 ·rw[if_pos AA] at h3
  have hn:=P0 v w (by omega);rw[show decide ((0:UInt8)∈v)=false by simpa using h3] at hn;rcases AA with rfl|rfl|rfl|rfl<;>
  ·(try unfold H0 at*);(try unfold I3 at*);(try unfold F8 at*);(try unfold F7 at*)
   clear h h3 AC AB hk;go_enter Tryz.func126,Tryz.ntmps126
   go_wp2_with (first|(go_at_call 166;refine hc.mono ?_;rintro e w' ⟨rfl,rfl⟩)|(go_at_call 94;refine hn.mono ?_;rintro e w' ⟨rfl,rfl⟩))
   go_ret
   exact⟨rfl,rfl⟩
 ·rw[if_neg AA] at h3
  have hn:=P0 k w (by omega);rw[show decide ((0:UInt8)∈k)=false by simpa using h3] at hn;have q1: (k==[112,97,116,104])=false:=by rw[zG];exact λe=>AA (.inl e)
  have q2: (k==[108,105,110,107,112,97,116,104])=false:=by rw[zG];exact λe=>AA (.inr (.inl e))
  have q3: (k==[117,110,97,109,101])=false:=by rw[zG];exact λe=>AA (.inr (.inr (.inl e)))
  have q4: (k==[103,110,97,109,101])=false:=by rw[zG];exact λe=>AA (.inr (.inr (.inr e)))
  clear h h3 AC AB hk AA;go_enter Tryz.func126,Tryz.ntmps126
  go_wp2_with (first|(go_at_call 166;refine hc.mono ?_;rintro e w' ⟨rfl,rfl⟩)|(go_at_call 94;refine hn.mono ?_;rintro e w' ⟨rfl,rfl⟩))
  go_ret
  exact⟨rfl,rfl⟩
theorem A2j {v:Value} {x:Bool} {ps:List MemPlace} (h:plainElem (H:=Unit) Tryz.prog 4 v=some (.lit (.bool x),ps)):v= .bool x:=by
 have hu:=Tryz.underlying4;revert h
 generalize Tryz.prog.underlying 4=u at*;subst hu;intro h;unfold plainElem at h;cases v<;>simp_all
open Go.Maps Go.WideMaps Go.ChangeMaps in
theorem A2Z.look {w:World} {mb:Nat} (h:A2Z w mb) (k:List UInt8) (hk:k.length<=maxLen): (Instr.lookup 194 (.map (some mb)) (str k) false).run Tryz.prog w= .ok (.bool (decide (k∈F6))) w:=by
 obtain⟨D,n,h1,h2⟩:=h;have hz: (zeroValue 4).run Tryz.prog w= .ok (.bool false) w:=by kernel_rfl
 have AA:keyOf Tryz.prog 9 (str k)=some (.string k):=by
  have:=keyOf_string_mk (P:=Tryz.prog) (k:=9) Tryz.underlying9 (s:=⟨k.toArray⟩) (by rw[I6];exact hk);simpa using this
 obtain⟨v,ps,hr,hv⟩:=h1.lookup (t:=194) A4x Tryz.underlying194 hz (plainElem_bool (H:=Unit) Tryz.underlying4 false) AA;have e:=h2 k;generalize decide (k∈F6)=x0 at*;rw[e] at hv;refine hr.trans ?_;have AB:=A2j hv;rw[AB]
structure St where
 u:Bool
 p:Bool
 g:Bool
 q:Bool
 m:KV
def St.zero:St:=⟨true,true,true,false,λ_=>none⟩
def St.str (S:St) (R:KV) (s:List UInt8) (sz:Nat) (key:List UInt8):St:=⟨M6 S.u s sz key,S.p,I1 S.g s sz key,S.q,X7 S.m R s sz key⟩
def St.num (S:St) (R:KV) (x:Int) (n:Nat) (key:List UInt8):St:=⟨S.u&&B8 n x,S.p,S.g&&M2 n x,S.q,A2S S.m R x n key⟩
def St.numN (S:St) (x:Int) (n:Nat):St:=⟨S.u&&B8 n x,S.p&&B8 n x,S.g&&M2 n x,S.q,S.m⟩
def St.tim (S:St) (R:KV) (n x:Int) (key:List UInt8):St:=⟨A0E S.u n x key,S.p,S.g,A0b S.q n x key,A1F S.m R n x key⟩
def Hd.st (H:Hd) (R:KV):St:=
 ((((((((((((St.zero.str R H.name 100 H0).str R H.link 100 I3).str R H.user 32 F8).str R H.group 32 F7).numN H.mode 8).num R H.uid 8 V2).num R H.gid 8 V1).num R H.size 12 N9).numN H.maj 8).numN H.mnr 8).tim R H.mw H.mx H6).tim R H.aw H.ax J5).tim R H.cw H.cx J6
def AFS (G0:Nat) (E:Nat->Addr) (b0:Nat) (H:Hd) (R:KV) (S:St) (n:Nat) (w:World):Prop:=AF G0 E b0 H R S.u S.p S.g S.q S.m n w
structure Hd.InT (H:Hd):Prop extends H.In where
 aw:0<=H.aw/\H.aw<1000000000
 ax: -100000000000000000<=H.ax-62135596800/\H.ax-62135596800<=100000000000000000
 cw:0<=H.cw/\H.cw<1000000000
 cx: -100000000000000000<=H.cx-62135596800/\H.cx-62135596800<=100000000000000000
noncomputable def A1m (w:World) (H:Hd):World:=
 ((((((((w.alloc (.cells H.cells.toArray 130)).alloc (.cells #[.int .i64 14] 128)).alloc (.cells #[.map (some (w.heap.size+1+1+1))] 127)).alloc (.map #[] 0)).alloc (.cells #[.string ⟨#[]⟩] 9)).alloc (.cells #[.string ⟨#[]⟩] 9)).alloc (.cells #[.string ⟨#[]⟩] 9)).alloc (.cells #[.bool false] 4)).alloc (.cells Tryz.zeroCells132 132)
theorem A7Q (w:World) (H:Hd): (A1m w H).heap=((((((((w.heap.push (.cells H.cells.toArray 130)).push (.cells #[.int .i64 14] 128)).push (.cells #[.map (some (w.heap.size+1+1+1))] 127)).push (.map #[] 0)).push (.cells #[.string ⟨#[]⟩] 9)).push (.cells #[.string ⟨#[]⟩] 9)).push (.cells #[.string ⟨#[]⟩] 9)).push (.cells #[.bool false] 4)).push (.cells Tryz.zeroCells132 132):=rfl
theorem A2s (w:World) (H:Hd):Below w.heap.size w (A1m w H):=by
 have h:∀ (B:Nat) (w1:World) (o:Obj),B<=w1.heap.size->Below B w1 (w1.alloc o):=λB w1 o hB=>(zD _ _).alloc hB o;have s:∀ (w1:World) (o:Obj),(w1.alloc o).heap.size=w1.heap.size+1:=λw1 o=>Array.size_push ..;unfold A1m;refine((((((((h _ _ _ ?_).trans (h _ _ _ ?_)).trans (h _ _ _ ?_)).trans (h _ _ _ ?_)).trans (h _ _ _ ?_)).trans (h _ _ _ ?_)).trans (h _ _ _ ?_)).trans (h _ _ _ ?_)).trans (h _ _ _ ?_)<;>(try simp only[s])<;>omega
theorem B1C {α:Type} (a:Array α) (x:α) (n:Nat) (h:n=a.size): (a.push x)[n]?=some x:=by subst h;simp
theorem A8A {α:Type} (a:Array α) (x:α) (n:Nat) (h:n<a.size): (a.push x)[n]?=a[n]?:=by
 rw[Array.getElem?_push,if_neg (by omega)]
theorem B0S {G0:Nat} {E:Nat->Addr} (w:World) (H:Hd) (R:KV) (hg:Gl G0 E w) (hr:J4 w H.recs R w.heap.size):AFS G0 E w.heap.size H R St.zero 0 (A1m w H):=by
 have hb:=A2s w H;have hh:=A7Q w H;have AA:=hg.below hb
 have AB:J4 (A1m w H) H.recs R w.heap.size:=by
  rcases hr with h|⟨rb,n,h1,h2,h3,h4⟩
  ·exact .inl h
  ·exact .inr ⟨rb,n,h1,h2,h3.below hb,h4⟩
 generalize A1m w H=W at*
 have hm:M9 W (w.heap.size+3) 0 (λ_=>none):=by
  have e:W.heap[w.heap.size+3]?=((((w.alloc (.cells H.cells.toArray 130)).alloc (.cells #[.int .i64 14] 128)).alloc (.cells #[.map (some (w.heap.size+1+1+1))] 127)).alloc (.map #[] 0)).heap[w.heap.size+3]?:=by
   show _=((((w.heap.push (.cells H.cells.toArray 130)).push (.cells #[.int .i64 14] 128)).push (.cells #[.map (some (w.heap.size+1+1+1))] 127)).push (.map #[] 0))[w.heap.size+3]?
   rw[hh];repeat (rw[A8A _ _ _ (by simp only[Array.size_push];omega)])
  have h0:=M9.made (((w.alloc (.cells H.cells.toArray 130)).alloc (.cells #[.int .i64 14] 128)).alloc (.cells #[.map (some (w.heap.size+1+1+1))] 127));have es: (((w.alloc (.cells H.cells.toArray 130)).alloc (.cells #[.int .i64 14] 128)).alloc (.cells #[.map (some (w.heap.size+1+1+1))] 127)).heap.size=w.heap.size+3:=by show(((w.heap.push _).push _).push _).size=_;simp only[Array.size_push]
  rw[es] at h0;exact h0.block e
 refine⟨AA,hg.le,?_,?_,?_,hm,⟨⟨#[]⟩,?_⟩,⟨⟨#[]⟩,?_⟩,⟨⟨#[]⟩,?_⟩,?_,AB⟩<;>(rw[hh];(repeat (rw[A8A _ _ _ (by simp only[Array.size_push];omega)]));exact B1C _ _ _ (by simp only[Array.size_push]))
theorem AF.drew {G0:Nat} {E:Nat->Addr} {b0:Nat} {H:Hd} {R:KV} {u p g q:Bool} {m:KV} {n:Nat} {w:World} (h:AF G0 E b0 H R u p g q m n w):AF G0 E b0 H R u p g q m n w.drew:=h.below (zD _ w).drew
theorem AF.hd {G0:Nat} {E:Nat->Addr} {b0:Nat} {H:Hd} {R:KV} {u p g q:Bool} {m:KV} {n:Nat} {w:World} (h:AF G0 E b0 H R u p g q m n w) (k:Nat) (v:Value) (hv:H.cells[k]?=some v):w.cell? ⟨b0,k,none⟩=some v:=by
 rw[zA h.hH,List.getElem?_toArray];exact hv
def R3 (m R:KV) (typ:Int):KV:=λk=>match m k with
 |some v=>some v
 |none=>if typ=103\/(k∉F6/\Lib.hasPrefix k [71,78,85,46,115,112,97,114,115,101,46]=false) then R k else none
def S8 (u p g q:Bool) (fmt:Int):Bool×Bool×Bool:=if fmt=0 then(u,p,g) else if fmt=2 then(u,false,false) else if fmt=4 then(u&& !q,p,false) else(false,false,g)
def A1l (G0:Nat) (E:Nat->Addr) (f:Bool×Bool×Bool) (m:KV) (w:World) (e:Ending) (w':World):Prop:=∃mb n,e= .returned (.tuple #[.int .i64 (fm f.1 f.2.1 f.2.2),.map (some mb),.nilIface])/\M9 w' mb n m/\n<=8589934592/\w.heap.size<=mb/\Gl G0 E w'/\Below w.heap.size w w'
theorem B1F (m R:KV) (typ:Int) (h:∀k,R k=none):R3 m R typ=m:=by
 funext k
 unfold R3;cases hm:m k with
 |some v=>rfl
 |none=>simp only[h k,ite_self]
def A1j (m R:KV) (typ:Int) (AA:List UInt8->Bool):KV:=λk=>match m k with
 |some v=>some v
 |none=>if AA k then none else if typ=103\/(k∉F6/\Lib.hasPrefix k [71,78,85,46,115,112,97,114,115,101,46]=false) then R k else none
theorem A9V (m R:KV) (typ:Int):A1j m R typ (λk=>(R k).isSome)=m:=by
 funext k
 unfold A1j;cases m k with
 |some v=>rfl
 |none=>
  cases hR:R k with
  |some v=>simp only[hR,Option.isSome_some,if_true]
  |none=>simp only[hR,ite_self]
theorem B3F (m R:KV) (typ:Int) (AA:List UInt8->Bool) (h:∀k,AA k=false):A1j m R typ AA=R3 m R typ:=by
 funext k
 unfold A1j R3;rw[h k];rfl
theorem B1G (m R:KV) (typ:Int) (AA:List UInt8->Bool) (k u:List UInt8) (h:m k=some u):A1j m R typ (λz=>AA z&& !decide (z=k))=A1j m R typ AA:=by
 funext z
 unfold A1j;by_cases hz:z=k
 ·subst hz;rw[h]
 ·simp[hz]
theorem A6P (m R:KV) (typ:Int) (AA:List UInt8->Bool) (k:List UInt8) (ht:AA k=true) (h:¬(typ=103\/(k∉F6/\Lib.hasPrefix k [71,78,85,46,115,112,97,114,115,101,46]=false))):A1j m R typ (λz=>AA z&& !decide (z=k))=A1j m R typ AA:=by
 funext z
 unfold A1j;by_cases hz:z=k
 ·subst hz;rw[if_neg h,ht];simp
 ·simp[hz]
theorem B3G (m R:KV) (typ:Int) (AA:List UInt8->Bool) (k v:List UInt8) (hm:m k=none) (hR:R k=some v) (h:typ=103\/(k∉F6/\Lib.hasPrefix k [71,78,85,46,115,112,97,114,115,101,46]=false)):O2 (A1j m R typ AA) k v=A1j m R typ (λz=>AA z&& !decide (z=k)):=by
 funext z
 by_cases hz:z=k
 ·subst hz;rw[U6];unfold A1j;rw[hm,if_pos h];simp[hR]
 ·rw[R9 _ _ _ _ hz];unfold A1j;simp[hz]
theorem B1H (m R:KV) (typ:Int) (AA:List UInt8->Bool) (k:List UInt8) (ht:AA k=true):A1j m R typ AA k=m k:=by
 unfold A1j;cases m k with
 |some v=>rfl
 |none=>rw[ht];rfl
theorem AF.other {G0:Nat} {E:Nat->Addr} {b0:Nat} {H:Hd} {R:KV} {u p g q:Bool} {m:KV} {n:Nat} {w w':World} (h:AF G0 E b0 H R u p g q m n w) {j:Nat} (f:Fr w.heap.size [j] w w') (hj:b0+7<j):AF G0 E b0 H R u p g q m n w':=by
 obtain⟨k0,k1,k2,k3,k4,k5,k6,k7,k8,k9⟩:=h.kept f (by omega);exact⟨k0,h.le,k1,k2 (by omega),k3 (by omega),k4 (by omega),k5 (by omega),k6 (by omega),k7 (by omega),k8 (by omega),k9⟩
theorem A8M {fn:Func} {p q u:Tmp} (h:fn.results=#[.cell p 128,.cell q 127,.tmp u]) (AA:Array Value) (w:World) (a b:Addr) (x y:Value) (hp:AA.getD p undef= .pointer (some a)) (hq:AA.getD q undef= .pointer (some b)) (ca:w.cell? a=some x) (cb:w.cell? b=some y):
  (results fn AA).run Tryz.prog w= .ok (.tuple #[x,y,AA.getD u undef]) w:=by
 have AB:AA[p]?.getD undef= .pointer (some a):=by simpa using hp
 have AC:AA[q]?.getD undef= .pointer (some b):=by simpa using hq
 simp[results,h,AB,AC,asAddr,Sem.run_bind,Result.andThen,loadVar,Tryz.isAgg127,Tryz.isAgg128,ca,cb]
noncomputable def B7S:Code:=I2 44 (Tryz.f65.body.getD .skip)
noncomputable def B5B:Code:=I2 53 (Tryz.f65.body.getD .skip)
noncomputable def B7T:Code:=I2 65 (Tryz.f65.body.getD .skip)
def A9s (G0:Nat) (E:Nat->Addr) (b0:Nat) (H:Hd) (R:KV) (S:St) (rb nR r0:Nat) (w wr:World):Prop:=
 ∃AA AB n2,K9 wr rb r0 nR R AA AB/\AF G0 E b0 H R S.u S.p S.g S.q (A1j S.m R H.typ AA) n2 wr/\n2+AB<=26+nR/\Below b0 w wr
def A9w (G0:Nat) (E:Nat->Addr) (b0:Nat) (H:Hd) (R:KV) (u p g q:Bool) (m:KV) (n2 r1:Nat) (w wr:World):Prop:=
 ∃AA AB,K9 wr (b0+3) r1 n2 m AA AB/\AF G0 E b0 H R u p g q m n2 wr/\Below b0 w wr
def U7 (l:List UInt8):List UInt8:=if J2 l then l.take (M4 l).toNat else []
def M5 (l:List UInt8):List UInt8:=if J2 l then l.drop ((M4 l).toNat+1) else l
structure A7P (h:Hd) (B:C1):Prop where
 ok:B.Ok
 typ:B.typ=[UInt8.ofNat h.typ.toNat]
 name:V9 (List.replicate 100 0) (M5 h.name) B.name
 link:V9 (List.replicate 100 0) h.link B.link
 user:V9 (List.replicate 32 0) h.user B.user
 group:V9 (List.replicate 32 0) h.group B.group
 mode:B.mode=C2 8 h.mode.toNat
 uid:B.uid=C2 8 h.uid.toNat
 gid:B.gid=C2 8 h.gid.toNat
 size:B.size=C2 12 h.size.toNat
 mtime:B.mtime=C2 12 h.sec.toNat
 maj:B.maj=C2 8 h.maj.toNat
 mnr:B.mnr=C2 8 h.mnr.toNat
 magic:B.magic=[117,115,116,97,114,0]
 ver:B.ver=[48,48]
 chk:B.chk=C2 7 (X8 B.bytes 512)++[32]
 rest:∃pf,V9 (List.replicate 155 0) (U7 h.name) pf/\B.rest=pf++List.replicate 12 0
structure WS (G0:Nat) (E:Nat->Addr) (B tw b fw:Nat) (pad:Nat) (H:Hd) (blk bs:List UInt8) (err:Value) (w:World):Prop where
 W:TW tw b fw pad H.cells (Lib.byteCells blk) err w
 buf:W3 B b bs w
 F:FW fw b 0 w
 gl:Gl G0 E w
 BG:G0<=B
 tG:G0<=tw
 fG:G0<=fw
 Bw:B<=w.heap.size
 blk512:blk.length=512
theorem WS.tb {G0:Nat} {E:Nat->Addr} {B tw b fw AC:Nat} {H:Hd} {AA bs:List UInt8} {AB:Value} {w:World} (h:WS G0 E B tw b fw AC H AA bs AB w):tw≠b:=h.buf.ne h.W.1 (by decide)
theorem WS.tf {G0:Nat} {E:Nat->Addr} {B tw b fw AC:Nat} {H:Hd} {AA bs:List UInt8} {AB:Value} {w:World} (h:WS G0 E B tw b fw AC H AA bs AB w):fw≠tw:=by
 rintro rfl;have:=h.F;rw[FW,h.W.1] at this;cases this
theorem WS.bG {G0:Nat} {E:Nat->Addr} {B tw b fw AC:Nat} {H:Hd} {AA bs:List UInt8} {AB:Value} {w:World} (h:WS G0 E B tw b fw AC H AA bs AB w):G0<=b:=zP h.BG h.buf.base
theorem WS.below {G0:Nat} {E:Nat->Addr} {B tw b fw AC:Nat} {H:Hd} {AA bs:List UInt8} {AB:Value} {w w':World} (h:WS G0 E B tw b fw AC H AA bs AB w) (f:Below w.heap.size w w'):WS G0 E B tw b fw AC H AA bs AB w':=
 ⟨⟨(f.block tw (A8 h.W.1)).trans h.W.1,h.W.2⟩,h.buf.carry (B':=w.heap.size) (S:=[]) (Fr.of_below f _ _) (zB _) (by simp) (by simp),(f.block fw (A8 h.F)).trans h.F,h.gl.below f,h.BG,h.tG,h.fG,zP h.Bw f.size,h.blk512⟩
theorem WS.drew {G0:Nat} {E:Nat->Addr} {B tw b fw AC:Nat} {H:Hd} {AA bs:List UInt8} {AB:Value} {w:World} (h:WS G0 E B tw b fw AC H AA bs AB w):WS G0 E B tw b fw AC H AA bs AB w.drew:=h.below (zD _ w).drew
theorem WS.hdr {G0:Nat} {E:Nat->Addr} {B tw b fw AC:Nat} {H:Hd} {AA bs:List UInt8} {AB:Value} {w:World} (h:WS G0 E B tw b fw AC H AA bs AB w) (k:Nat) (v:Value) (hv:H.cells[k]?=some v):w.cell? ⟨tw,3+k,none⟩=some v:=by
 have hk:k<20:=by have:=(zM.1 hv).1;have:=h.W.2.1;omega
 rw[zA h.W.1,A2o _ _ _ _ _ _ h.W.2.1 k hk,hv]
theorem WS.setHdr {G0:Nat} {E:Nat->Addr} {B tw b fw AC:Nat} {H:Hd} {AA bs:List UInt8} {AB:Value} {w:World} (h:WS G0 E B tw b fw AC H AA bs AB w) (k:Nat) (hk:k<20) (v:Value) (H2:Hd) (he:H.cells.set k v=H2.cells):
  WS G0 E B tw b fw AC H2 AA bs AB (w.setCell ⟨tw,3+k,none⟩ v):=by
 have q:=B6 (i:=3+k) v h.W.1;rw[A5x _ _ _ _ _ _ h.W.2.1 k hk,he] at q;exact⟨⟨q,rfl,h.W.2.2⟩,h.buf.setCell (p:=⟨tw,3+k,none⟩) h.W.1 (by decide) (by decide) v,(C0 _ h.tf).trans h.F,h.gl.set _ h.tG v,h.BG,h.tG,h.fG,by simpa[World.setCell] using h.Bw,h.blk512⟩
theorem WS.next {G0:Nat} {E:Nat->Addr} {B tw b fw AD fb:Nat} {H:Hd} {AE AA bs:List UInt8} {AB v:Value} {w w':World} (h:WS G0 E B tw b fw AD H AE bs AB w) (f:Fr w.heap.size [tw,fb] w w') (AC:w.heap[fb]?=some (.cells #[v] 196 (0,0))) (hG:G0<=fb)
  (hW:TW tw b fw AD H.cells (Lib.byteCells AA) AB w') (h2:AA.length=512):WS G0 E B tw b fw AD H AA bs AB w':=by
 have AG:fb≠b:=h.buf.ne AC (by decide);have AH:fb≠fw:=by rintro rfl;have:=h.F;rw[FW,AC] at this;cases this
 refine⟨hW,h.buf.carry (B':=w.heap.size) (S:=[tw,fb]) f (zB _) (by simp;exact⟨Ne.symm h.tb,Ne.symm AG⟩) ?_,f.cells h.F (by simp;exact⟨h.tf,Ne.symm AH⟩) (.inr (by decide)),h.gl.fr f h.gl.le (by simp;exact⟨h.tG,hG⟩),h.BG,h.tG,h.fG,zP h.Bw f.size,h2⟩;intro k hk c fz e;rcases List.mem_cons.1 hk with rfl|hk
 ·rw[h.W.1] at e;cases e
 ·obtain rfl:=List.mem_singleton.1 hk
  rw[AC] at e;cases e
theorem A0S {tw b fw:Nat} {AD:Int} {AA AB:List Value} {AC:Value} {w:World} (h:TW tw b fw AD AA AB AC w) (k:Nat) (v:Value) (hv:AA[k]?=some v):w.cell? ⟨tw,3+k,none⟩=some v:=by
 have hk:k<20:=by have:=(zM.1 hv).1;have:=h.2.1;omega
 rw[zA h.1,A2o _ _ _ _ _ _ h.2.1 k hk,hv]
theorem A2F (b:C1) (hb:b.Ok) (x:List UInt8) (hx:x.length=8):X8 ({b with chk:=x}:C1).bytes 512=X8 b.bytes 512:=by
 have h:∀k,A4q ({b with chk:=x}:C1).bytes k=A4q b.bytes k:=by
  intro k;unfold A4q;split
  ·rfl
  ·rename_i hk
   have e1: ({b with chk:=x}:C1).bytes=b.bef_chk++(x++b.aft_chk):=C1.put_chk b x;have e2:b.bytes=b.bef_chk++(b.chk++b.aft_chk):=C1.at_chk b;have l1:=hb.bef_chk;have l2:=hb.chk;rw[e1,e2];congr 1
   rw[List.getD_eq_getElem?_getD,List.getD_eq_getElem?_getD];congr 1
   by_cases h1:k<148
   ·rw[zX (by omega),zX (by omega)]
   ·rw[zT (by omega),zT (by omega),zT (by omega),zT (by omega),hx,l2]
 have:∀n,X8 ({b with chk:=x}:C1).bytes n=X8 b.bytes n:=by
  intro n;induction n with
  |zero=>rfl
  |succ n ih=>rw[X8,X8,ih,h n]
 exact this 512
def A4n (l:List UInt8):C1:=⟨(l.drop 0).take 100,(l.drop 100).take 8,(l.drop 108).take 8,(l.drop 116).take 8,(l.drop 124).take 12,(l.drop 136).take 12,(l.drop 148).take 8,(l.drop 156).take 1,(l.drop 157).take 100,(l.drop 257).take 6,(l.drop 263).take 2,(l.drop 265).take 32,(l.drop 297).take 32,(l.drop 329).take 8,(l.drop 337).take 8,(l.drop 345).take 167⟩
theorem A4o (l:List UInt8) (h:l.length=512): (A4n l).Ok:=by
 constructor<;>(simp only[A4n,List.length_take,List.length_drop,h];omega)
theorem E9 (l:List UInt8) (a n:Nat) (r:List UInt8) (h:r=l.drop (a+n)): (l.drop a).take n++r=l.drop a:=by
 rw[h,<-List.drop_drop,List.take_append_drop]
theorem A1n (l:List UInt8) (h:l.length=512): (A4n l).bytes=l:=by
 unfold C1.bytes A4n;have e: (l.drop 345).take 167=l.drop 345:=List.take_of_length_le (by rw[List.length_drop,h];omega);simp only[e];rw[E9 l 337 8 _ rfl];rw[E9 l 329 8 _ rfl];rw[E9 l 297 32 _ rfl];rw[E9 l 265 32 _ rfl];rw[E9 l 263 2 _ rfl];rw[E9 l 257 6 _ rfl];rw[E9 l 157 100 _ rfl];rw[E9 l 156 1 _ rfl];rw[E9 l 148 8 _ rfl];rw[E9 l 136 12 _ rfl];rw[E9 l 124 12 _ rfl];rw[E9 l 116 8 _ rfl];rw[E9 l 108 8 _ rfl];rw[E9 l 100 8 _ rfl];rw[E9 l 0 100 _ rfl];rfl
def B8A (G0:Nat) (E:Nat->Addr) (B tw b fw AB:Nat) (H:Hd) (AA bs:List UInt8) (w wx:World):Prop:=WS G0 E B tw b fw AB {H with name:=M5 H.name} AA bs .nilIface wx/\Fr B [b,tw] w wx
def B8B (G0:Nat) (E:Nat->Addr) (B tw b AB:Nat) (H:Hd) (bs:List UInt8) (sz:Int) (w:World) (e:Ending) (w':World):Prop:=
 e= .returned .nilIface/\∃AA B2,A7P H B2/\W3 B b (bs++List.replicate AB 0++B2.bytes) w'/\TW tw b AA (E7 sz) ({H with name:=M5 H.name}:Hd).cells (Lib.byteCells B2.bytes) .nilIface w'/\FW AA b sz w'/\w.heap.size<=AA/\AA<w'.heap.size/\Fr B [b,tw] w w'
structure A6B (H:Hd):Prop where
 name: (M5 H.name).length<=100
 pre: (U7 H.name).length<=155
 link:H.link.length<=100
 user:H.user.length<=32
 group:H.group.length<=32
 mode:B8 8 H.mode=true
 uid:B8 8 H.uid=true
 gid:B8 8 H.gid=true
 size:B8 12 H.size=true
 mtime:B8 12 H.sec=true
 maj:B8 8 H.maj=true
 mnr:B8 8 H.mnr=true
theorem A9n (G0:Nat) (E:Nat->Addr) (B tw b fw AD:Nat) (H:Hd) (BA bs:List UInt8) (w:World) (h:WS G0 E B tw b fw AD H BA bs .nilIface w) (hp:AD<512) (BH:H.In) (hf:A6B H) (sz:Int) (Bb:sz=if D1 H.typ then 0 else H.size) (BI:bs.length+AD+512<=140737488355328):
  Calls Tryz.prog 67 #[.pointer (some ⟨tw,0,none⟩),.pointer (some ⟨tw,3,none⟩)] w (B8B G0 E B tw b AD H bs sz w):=by
 have cn:=h.hdr 1 (str H.name) rfl;have zn:w.frozen? ⟨tw,4,none⟩=false:=zE h.W.1 4;have Bq:=A8 h.W.1;have Ba:=A6U w H.name BH.name;have HH:=A0 h;have AB:=A0 BH;have HF:=A0 hf;have BQ:=A0 Bb;clear h BH hf Bb;go_enter Tryz.func67,Tryz.ntmps67
 go_upto_region 2 with fail
 go_cut [5,8,6,7] (λs5 s8 s6 s7 wx=>s5= .string ⟨#[]⟩/\s8= .bool (J2 H.name)/\(J2 H.name=true->s6=str (U7 H.name)/\s7=str (M5 H.name))/\Below w.heap.size w wx)
 case first=>
  go_wp2_with (go_at_call 97;refine Ba.mono ?_;rintro e w1 ⟨rfl,AV⟩;cases AJ:J2 H.name)
  ·go_meet
   exact⟨rfl,by simp[AJ],(λh=>by rw[AJ] at h;cases h),AV⟩
  ·go_meet
   exact⟨rfl,by simp[AJ],(λh=>⟨by simp[U7,AJ],by simp[M5,AJ]⟩),AV⟩
 case rest=>
  obtain⟨rfl,rfl,AI,AV⟩:=hcut;have AY:=A0 (HH.out.below AV);have Av:=A0 (Fr.of_below AV B [b,tw]);have cn:=AY.out.hdr 1 (str H.name) rfl;have zn:wc.frozen? ⟨tw,4,none⟩=false:=zE AY.out.W.1 4;clear Ba AV;go_upto_if 20 with fail
  go_cut [5,6,7,8] (λs5 _ _ _ wx=>s5=str (U7 H.name)/\B8A G0 E B tw b fw AD H BA bs w wx)
  case first=>
   cases AJ:J2 H.name
   ·clear AI
    go_wp2_with fail
    go_meet
    have eP:U7 H.name=[]:=by simp[U7,AJ]
    have eN:M5 H.name=H.name:=by simp[M5,AJ]
    refine⟨by rw[eP],?_,Av.out⟩;rw[eN];exact AY.out
   ·obtain⟨rfl,rfl⟩:=AI AJ
    have Al:=AY.out.setHdr 1 (by decide) (str (M5 H.name)) {H with name:=M5 H.name} rfl;have Bk:=A0 Al;clear Al AI;go_wp2_with fail
    go_meet
    refine⟨rfl,Bk.out,Av.out.setCell (p:=⟨tw,4,none⟩) (.inl (by simp)) _⟩
  case rest=>
   obtain⟨rfl,HM,Aw⟩:=hcut;obtain⟨w2,rfl⟩:∃w2:World,w2=wc:=⟨_,rfl⟩;have AE:=HM.below ((zD _ w2).alloc (zB _) (.cells #[.nilIface] 196));have BF:=zI w2 (.cells #[.nilIface] 196)
   have BT:TB tw b fw AD ({H with name:=M5 H.name}:Hd).cells w2.heap.size .nilIface (E 3) (A4n BA) (w2.alloc (.cells #[.nilIface] 196)):=
    ⟨by rw[A1n _ AE.blk512];exact AE.W,A4o _ AE.blk512,BF,AE.gl.db,AE.gl.err 3 (by decide),by have:=AE.tG;have:=AE.gl.g19;omega,by have:=AE.tG;have:=AE.gl.g19;omega,by have:=HM.gl.le;have:=HM.gl.g19;omega,by have:=HM.gl.le;have:=HM.gl.g19;omega⟩
   have hT:=B3V (w2.alloc (.cells #[.nilIface] 196)) tw b fw w2.heap.size AD {H with name:=M5 H.name} ⟨AB.out.mode,AB.out.uid,AB.out.gid,AB.out.size,AB.out.maj,AB.out.mnr,AB.out.mw,AB.out.mx,AB.out.typ,by have:=HF.out.name;show(M5 H.name).length<=_;omega,AB.out.link,AB.out.user,AB.out.group⟩ .nilIface (E 3) _ BT;have HT:=A0 hT;have Ay:=A0 AE;have Ax:=A0 (Aw.alloc (.cells #[.nilIface] 196));have By:w2.heap.size≠b:=by have:=HM.buf.lt;omega
   have BV:w2.heap.size≠tw:=by have:=A8 HM.W.1;omega
   have Bv:w2.heap.size≠fw:=by have:=A8 HM.F;omega
   have Bu:w.heap.size<=w2.heap.size:=Aw.size;have BO:=A0 BF;clear HM Aw AE BF BT hT cn zn AY Av AI;generalize Bs:w2.alloc (.cells #[.nilIface] 196)=wa at*;have Bz:w2.heap.size<wa.heap.size:=A8 BO.out;generalize Ai:w2.heap.size=fb at*;have AG:=A0 Ai;go_wp2_with fail
   refine HT.out.mono ?_;clear Ai Bs;rintro e w3 ⟨rfl,B2,ferr2,AM,BD,Af,BC⟩;have Aj:ferr2= .nilIface:=Af HF.out.name HF.out.link HF.out.user HF.out.group HF.out.mode HF.out.uid HF.out.gid HF.out.size HF.out.mtime HF.out.maj HF.out.mnr;subst Aj;have AQ:=Ay.out.next BC BO.out (by have:=Ay.out.gl.le;have:=AG.out;have:=HH.out.gl.le;omega) AM.W AM.ok.len;have BM:=AM.seg.get_rest;rw[BD.rest,show List.replicate 167 (0:UInt8)=List.replicate 155 0++List.replicate 12 0 by rw[List.replicate_append_replicate]] at BM;have Am:=E4.first.1 BM
   have BW:=AM.pre;have Bo:=AQ.gl.err 3 (by decide);have Bp: (U7 H.name).length<=1048576:=zP HF.out.pre (by decide);have BE:=R5 w3 fb tw 155 167 (U7 H.name) 134 (A3S b fw AD ({H with name:=M5 H.name}:Hd).cells++Lib.byteCells B2.bef_rest) (List.replicate 155 0) (Lib.byteCells (List.replicate 12 0)++(Lib.byteCells B2.aft_rest++[.nilIface])) .nilIface (E 3) Am z7 (by decide) (by decide) (by decide) Bp AM.F BV Bo;rw[AM.ok.off_rest,BW] at BE;have vu:=A0 Z0;have vp:=A0 A7K;have Ap:=A0 AQ;have AH:=A0 AM;have Bl:=A0 BD;have Be:=A0 BC;have BP:=A0 BE;clear BM Am AQ AM BD BC BE Af BW HT;go_wp2_with fail
   refine(vu.out _ _).mono ?_;rintro e wx ⟨rfl,rfl⟩;go_wp2_with fail
   refine(vp.out _ _ _).mono ?_;rintro e wx ⟨rfl,rfl⟩;go_wp2_with fail
   refine BP.out.mono ?_;rintro e w4 ⟨rfl,pf,Bm,BJ,AO,BY,Ag,Aq⟩;obtain rfl:=AO HF.out.pre;have AS:=BJ.len;rw[z7] at AS;have AT:=(E4.first.2 BY).put_rest;have An:=AH.out.ok.put_rest (pf++List.replicate 12 0) (by rw[zH,AS,z7]);have AP:=fun(o:Nat) (ho: (A3S b fw AD ({H with name:=M5 H.name}:Hd).cells).length=o)=>A0D w4 tw 134 _ _ _ 2 (.inl rfl) An AT AH.out.tw15 (Aq.cell AH.out.db (by simp;exact⟨Ne.symm AH.out.tw15,Ne.symm AH.out.f15⟩) (zC AH.out.db));have BL:=AP 23 AH.out.pre;rw[AH.out.pre] at BL;have Ac:TW tw b fw AD ({H with name:=M5 H.name}:Hd).cells (Lib.byteCells ({B2 with rest:=pf++List.replicate 12 0}:C1).bytes) .nilIface w4:=TW.of_seg AT rfl An.len;have Ae:=Ap.out.next Aq AH.out.F (by have:=Ap.out.gl.le;have:=AG.out;have:=HH.out.gl.le;omega) Ac An.len;have Bj:=A0 BL;have BR:=A0 Ae;have AX:=A0 Ag;have Bg:=A0 Aq;have Bh:=A0 BJ;have AZ:=A0 An;clear BL AP Ac Ae Ag Aq BJ An AT BY AS AO BP;generalize BS: ({B2 with rest:=pf++List.replicate 12 0}:C1)=B4 at*;have Bd:=A0 BS;clear BS;go_wp2_with fail
   refine Bj.out.mono ?_;rintro e w5 ⟨rfl,BZ,Ar⟩;have Bc:=AZ.out.put_magic [117,115,116,97,114,0] rfl;have Ao:B4.ustar.Ok:=Bc.put_ver [48,48] rfl;have BU:=A0l B4.ustar.bytes 512;have As: (C2 7 (X8 B4.ustar.bytes 512)).length=7:=D2 7 _ (by omega) (by omega);have Au:B4.ustar.summed.Ok:=Ao.put_chk _ (by rw[zH,As];rfl);have Ad:TW tw b fw AD ({H with name:=M5 H.name}:Hd).cells (Lib.byteCells B4.ustar.summed.bytes) .nilIface w5:=TW.of_seg BZ rfl Au.len;have Ab:Fr w4.heap.size [tw,fb] w4 w5:=Ar.wide (zB _) (by simp);have AA:=BR.out.next Ab AX.out (by have:=Ap.out.gl.le;have:=AG.out;have:=HH.out.gl.le;omega) Ad Au.len;have Ah:=Ar.cells AX.out (by simpa using BV) (.inr (by decide));have c5:w5.cell? ⟨fb,0,none⟩=some .nilIface:=by rw[zA Ah];rfl
   have cs:=AA.hdr 3 (.int .i64 H.size) rfl;have ct:=AA.hdr 0 (.int .u8 H.typ) rfl
   have AU:0<=sz/\sz<=9223372036854775807:=by
    have h1:=BQ.out;have h2:=HF.out.size;have h3:=AB.out.size;simp only[B8,decide_eq_true_eq] at h2;split at h1
    ·omega
    ·omega
   have BX:=X4 w5.drew B tw b fw AD hp bs B4.ustar.summed.bytes ({H with name:=M5 H.name}:Hd).cells H.size sz H.typ AA.drew.buf AA.drew.Bw AA.drew.W AA.drew.F BI AU.1 AU.2 BQ.out;have Bi:=A0 BX;have AR:∀k∈[tw,fb],k∈[b,tw,fb]:=λk hk=>List.mem_cons_of_mem _ hk
   have Ak:∀k∈[b,tw],k∈[b,tw,fb]:=λk hk=>by
    rcases List.mem_cons.1 hk with h|h
    ·subst h;exact List.mem_cons_self
    ·rw[List.mem_singleton.1 h];exact List.mem_cons_of_mem _ List.mem_cons_self
   have AL:Fr B [b,tw,fb] w w5.drew:=((((Ax.out.wide (zB _) (λk hk _=>Ak k hk)).trans (Be.out.wide (B':=B) (S':=[b,tw,fb]) Ay.out.Bw (λk hk _=>AR k hk))).trans (Bg.out.wide Ap.out.Bw (λk hk _=>AR k hk))).trans (Ar.wide BR.out.Bw (by simp))).drew
   have Aa:Fr B [b,tw] w w5.drew:=AL.wide (zB _) (λk hk Bq=>by
    rcases List.mem_cons.1 hk with h|hk
    ·rw[h];simp
    ·rcases List.mem_cons.1 hk with h|hk
     ·rw[h];simp
     ·have:=List.mem_singleton.1 hk;have:=AG.out;omega)
   clear AL AR Ak;have AW:=A0 Aa;have Az:=A0 Au;clear BZ Ar Bc Ao BU As Au Ad Ab AA Ah BX Aa AU;go_wp2_with fail
   go_region_held3 (λw'=>w'.cell? ⟨tw,6,none⟩=some (.int .i64 H.size)/\w'.cell? ⟨tw,3,none⟩=some (.int .u8 H.typ)) (first|go_keep|(refine And.intro ?_ ?_<;>assumption)) (first|(go_at_call 133;refine Bi.out.mono ?_;rintro e w6 ⟨rfl,Bn,r1,r2,r3,r4,r5,r6⟩;have d0:=(A0S r2 3 (.int .i64 H.size) rfl);have d1:=(A0S r2 0 (.int .u8 H.typ) rfl)))
   go_wp2_with fail
   go_ret
   have Bt:w.heap.size<=w5.drew.heap.size:=AW.out.size;refine⟨rfl,Bn,B4.ustar.summed,?_,r1,r2,r3,zP Bt r4,r5,AW.out.trans (r6.wide (zB _) (λk hk _=>hk))⟩;have AC:=Bl.out;have eB:=Bd.out;refine⟨Az.out,?_,?_,?_,?_,?_,?_,?_,?_,?_,?_,?_,?_,rfl,rfl,?_,⟨pf,Bh.out,?_⟩⟩
   ·rw[<-eB];exact AC.typ
   ·rw[<-eB];exact AC.name
   ·rw[<-eB];exact AC.link
   ·rw[<-eB];exact AC.user
   ·rw[<-eB];exact AC.group
   ·rw[<-eB];have:=AC.mode;rw[if_pos (show B8 8 H.mode=true from HF.out.mode)] at this;exact this
   ·rw[<-eB];have:=AC.uid;rw[if_pos (show B8 8 H.uid=true from HF.out.uid)] at this;exact this
   ·rw[<-eB];have:=AC.gid;rw[if_pos (show B8 8 H.gid=true from HF.out.gid)] at this;exact this
   ·rw[<-eB];have:=AC.size;rw[if_pos (show B8 12 H.size=true from HF.out.size)] at this;exact this
   ·rw[<-eB];have:=AC.mtime;rw[if_pos (show B8 12 ({H with name:=M5 H.name}:Hd).sec=true from HF.out.mtime)] at this;exact this
   ·rw[<-eB];have:=AC.maj;rw[if_pos (show B8 8 H.maj=true from HF.out.maj)] at this;exact this
   ·rw[<-eB];have:=AC.mnr;rw[if_pos (show B8 8 H.mnr=true from HF.out.mnr)] at this;exact this
   ·show C2 7 (X8 B4.ustar.bytes 512)++[32]=C2 7 (X8 B4.ustar.summed.bytes 512)++[32]
    have Br:B4.ustar.Ok:=(AZ.out.put_magic [117,115,116,97,114,0] rfl).put_ver [48,48] rfl;have BU:=A0l B4.ustar.bytes 512;have As: (C2 7 (X8 B4.ustar.bytes 512)).length=7:=D2 7 _ (by omega) (by omega);rw[show X8 B4.ustar.summed.bytes 512=X8 B4.ustar.bytes 512 from A2F B4.ustar Br (C2 7 (X8 B4.ustar.bytes 512)++[32]) (by rw[zH,As];rfl)]
   ·rw[<-eB];rfl
end Go.Proofs.YtkanmkcojlefbaaGreatDoor
