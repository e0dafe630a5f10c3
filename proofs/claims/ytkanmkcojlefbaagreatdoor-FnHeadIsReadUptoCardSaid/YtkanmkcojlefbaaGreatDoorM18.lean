/-
  Part of the proof; holds the texts Allow0, IHd, HOf0.
-/
import Derived.Test.YtkanmkcojlefbaaGreatDoorM16
import Derived.Test.YtkanmkcojlefbaaGreatDoorM17
set_option maxHeartbeats 4000000
set_option maxRecDepth 100000
set_option linter.unusedSimpArgs false
set_option linter.unusedVariables false
namespace Go.Proofs.YtkanmkcojlefbaaGreatDoor
open Go.RowKit
structure St where
 u:Bool
 p:Bool
 g:Bool
 q:Bool
 m:KV
def St.zero:St:=⟨true,true,true,false,λ_=>none⟩
def St.str (S:St) (R:KV) (s:List UInt8) (sz:Nat) (key:List UInt8):St:=⟨M6 S.u s sz key,S.p,I1 S.g s sz key,S.q,X7 S.m R s sz key⟩
def St.num (S:St) (R:KV) (x:Int) (n:Nat) (key:List UInt8):St:=⟨S.u&&B8 n x,S.p,S.g&&M2 n x,S.q,A2S S.m R x n key⟩
def St.numN (S:St) (x:Int) (n:Nat):St:=⟨S.u&&B8 n x,S.p&&B8 n x,S.g&&M2 n x,S.q,S.m⟩
def St.tim (S:St) (R:KV) (n x:Int) (key:List UInt8):St:=⟨A0E S.u n x key,S.p,S.g,A0b S.q n x key,A1F S.m R n x key⟩
def Hd.st (H:Hd) (R:KV):St:=
 ((((((((((((St.zero.str R H.name 100 H0).str R H.link 100 I3).str R H.user 32 F8).str R H.group 32 F7).numN H.mode 8).num R H.uid 8 V2).num R H.gid 8 V1).num R H.size 12 N9).numN H.maj 8).numN H.mnr 8).tim R H.mw H.mx H6).tim R H.aw H.ax J5).tim R H.cw H.cx J6
def AFS (G0:Nat) (E:Nat->Addr) (b0:Nat) (H:Hd) (R:KV) (S:St) (n:Nat) (w:World):Prop:=AF G0 E b0 H R S.u S.p S.g S.q S.m n w
structure Hd.InT (H:Hd):Prop extends H.In where
 aw:0<=H.aw/\H.aw<1000000000
 ax: -100000000000000000<=H.ax-62135596800/\H.ax-62135596800<=100000000000000000
 cw:0<=H.cw/\H.cw<1000000000
 cx: -100000000000000000<=H.cx-62135596800/\H.cx-62135596800<=100000000000000000
noncomputable def A1m (w:World) (H:Hd):World:=
 ((((((((w.alloc (.cells H.cells.toArray 130)).alloc (.cells #[.int .i64 14] 128)).alloc (.cells #[.map (some (w.heap.size+1+1+1))] 127)).alloc (.map #[] 0)).alloc (.cells #[.string ⟨#[]⟩] 9)).alloc (.cells #[.string ⟨#[]⟩] 9)).alloc (.cells #[.string ⟨#[]⟩] 9)).alloc (.cells #[.bool false] 4)).alloc (.cells Tryz.zeroCells132 132)
theorem A7Q (w:World) (H:Hd): (A1m w H).heap=((((((((w.heap.push (.cells H.cells.toArray 130)).push (.cells #[.int .i64 14] 128)).push (.cells #[.map (some (w.heap.size+1+1+1))] 127)).push (.map #[] 0)).push (.cells #[.string ⟨#[]⟩] 9)).push (.cells #[.string ⟨#[]⟩] 9)).push (.cells #[.string ⟨#[]⟩] 9)).push (.cells #[.bool false] 4)).push (.cells Tryz.zeroCells132 132):=rfl
theorem A2s (w:World) (H:Hd):Below w.heap.size w (A1m w H):=by
 have h:∀ (B:Nat) (w1:World) (o:Obj),B<=w1.heap.size->Below B w1 (w1.alloc o):=λB w1 o hB=>(Below.refl _ _).alloc hB o;have s:∀ (w1:World) (o:Obj),(w1.alloc o).heap.size=w1.heap.size+1:=λw1 o=>Array.size_push ..;unfold A1m;refine((((((((h _ _ _ ?_).trans (h _ _ _ ?_)).trans (h _ _ _ ?_)).trans (h _ _ _ ?_)).trans (h _ _ _ ?_)).trans (h _ _ _ ?_)).trans (h _ _ _ ?_)).trans (h _ _ _ ?_)).trans (h _ _ _ ?_)<;>(try simp only[s])<;>omega
theorem B1C {α:Type} (a:Array α) (x:α) (n:Nat) (h:n=a.size): (a.push x)[n]?=some x:=by subst h;simp
theorem A8A {α:Type} (a:Array α) (x:α) (n:Nat) (h:n<a.size): (a.push x)[n]?=a[n]?:=by
 rw[Array.getElem?_push,if_neg (by omega)]
theorem B0S {G0:Nat} {E:Nat->Addr} (w:World) (H:Hd) (R:KV) (hg:Gl G0 E w) (hr:J4 w H.recs R w.heap.size):AFS G0 E w.heap.size H R St.zero 0 (A1m w H):=by
 have hb:=A2s w H;have hh:=A7Q w H;have AA:=hg.below hb
 have AB:J4 (A1m w H) H.recs R w.heap.size:=by
  rcases hr with h|⟨rb,n,h1,h2,h3,h4⟩
  ·exact .inl h
  ·exact .inr ⟨rb,n,h1,h2,h3.below hb,h4⟩
 generalize A1m w H=W at*
 have hm:M9 W (w.heap.size+3) 0 (λ_=>none):=by
  have e:W.heap[w.heap.size+3]?=((((w.alloc (.cells H.cells.toArray 130)).alloc (.cells #[.int .i64 14] 128)).alloc (.cells #[.map (some (w.heap.size+1+1+1))] 127)).alloc (.map #[] 0)).heap[w.heap.size+3]?:=by
   show _=((((w.heap.push (.cells H.cells.toArray 130)).push (.cells #[.int .i64 14] 128)).push (.cells #[.map (some (w.heap.size+1+1+1))] 127)).push (.map #[] 0))[w.heap.size+3]?
   rw[hh];repeat (rw[A8A _ _ _ (by simp only[Array.size_push];omega)])
  have h0:=M9.made (((w.alloc (.cells H.cells.toArray 130)).alloc (.cells #[.int .i64 14] 128)).alloc (.cells #[.map (some (w.heap.size+1+1+1))] 127));have es: (((w.alloc (.cells H.cells.toArray 130)).alloc (.cells #[.int .i64 14] 128)).alloc (.cells #[.map (some (w.heap.size+1+1+1))] 127)).heap.size=w.heap.size+3:=by show(((w.heap.push _).push _).push _).size=_;simp only[Array.size_push]
  rw[es] at h0;exact h0.block e
 refine⟨AA,hg.le,?_,?_,?_,hm,⟨⟨#[]⟩,?_⟩,⟨⟨#[]⟩,?_⟩,⟨⟨#[]⟩,?_⟩,?_,AB⟩<;>(rw[hh];(repeat (rw[A8A _ _ _ (by simp only[Array.size_push];omega)]));exact B1C _ _ _ (by simp only[Array.size_push]))
theorem AF.drew {G0:Nat} {E:Nat->Addr} {b0:Nat} {H:Hd} {R:KV} {u p g q:Bool} {m:KV} {n:Nat} {w:World} (h:AF G0 E b0 H R u p g q m n w):AF G0 E b0 H R u p g q m n w.drew:=h.below (Below.refl _ w).drew
theorem AF.hd {G0:Nat} {E:Nat->Addr} {b0:Nat} {H:Hd} {R:KV} {u p g q:Bool} {m:KV} {n:Nat} {w:World} (h:AF G0 E b0 H R u p g q m n w) (k:Nat) (v:Value) (hv:H.cells[k]?=some v):w.cell? ⟨b0,k,none⟩=some v:=by
 rw[Lib.cell_of_heap h.hH,List.getElem?_toArray];exact hv
def R3 (m R:KV) (typ:Int):KV:=λk=>match m k with
 |some v=>some v
 |none=>if typ=103\/(k∉F6/\Lib.hasPrefix k [71,78,85,46,115,112,97,114,115,101,46]=false) then R k else none
def S8 (u p g q:Bool) (fmt:Int):Bool×Bool×Bool:=if fmt=0 then(u,p,g) else if fmt=2 then(u,false,false) else if fmt=4 then(u&& !q,p,false) else(false,false,g)
def A1l (G0:Nat) (E:Nat->Addr) (f:Bool×Bool×Bool) (m:KV) (w:World) (e:Ending) (w':World):Prop:=∃mb n,e= .returned (.tuple #[.int .i64 (fm f.1 f.2.1 f.2.2),.map (some mb),.nilIface])/\M9 w' mb n m/\n<=8589934592/\w.heap.size<=mb/\Gl G0 E w'/\Below w.heap.size w w'
theorem B1F (m R:KV) (typ:Int) (h:∀k,R k=none):R3 m R typ=m:=by
 funext k
 unfold R3;cases hm:m k with
 |some v=>rfl
 |none=>simp only[h k,ite_self]
def A1j (m R:KV) (typ:Int) (AA:List UInt8->Bool):KV:=λk=>match m k with
 |some v=>some v
 |none=>if AA k then none else if typ=103\/(k∉F6/\Lib.hasPrefix k [71,78,85,46,115,112,97,114,115,101,46]=false) then R k else none
theorem A9V (m R:KV) (typ:Int):A1j m R typ (λk=>(R k).isSome)=m:=by
 funext k
 unfold A1j;cases m k with
 |some v=>rfl
 |none=>
  cases hR:R k with
  |some v=>simp only[hR,Option.isSome_some,if_true]
  |none=>simp only[hR,ite_self]
theorem B3F (m R:KV) (typ:Int) (AA:List UInt8->Bool) (h:∀k,AA k=false):A1j m R typ AA=R3 m R typ:=by
 funext k
 unfold A1j R3;rw[h k];rfl
theorem B1G (m R:KV) (typ:Int) (AA:List UInt8->Bool) (k u:List UInt8) (h:m k=some u):A1j m R typ (λz=>AA z&& !decide (z=k))=A1j m R typ AA:=by
 funext z
 unfold A1j;by_cases hz:z=k
 ·subst hz;rw[h]
 ·simp[hz]
theorem A6P (m R:KV) (typ:Int) (AA:List UInt8->Bool) (k:List UInt8) (ht:AA k=true) (h:¬(typ=103\/(k∉F6/\Lib.hasPrefix k [71,78,85,46,115,112,97,114,115,101,46]=false))):A1j m R typ (λz=>AA z&& !decide (z=k))=A1j m R typ AA:=by
 funext z
 unfold A1j;by_cases hz:z=k
 ·subst hz;rw[if_neg h,ht];simp
 ·simp[hz]
theorem B3G (m R:KV) (typ:Int) (AA:List UInt8->Bool) (k v:List UInt8) (hm:m k=none) (hR:R k=some v) (h:typ=103\/(k∉F6/\Lib.hasPrefix k [71,78,85,46,115,112,97,114,115,101,46]=false)):O2 (A1j m R typ AA) k v=A1j m R typ (λz=>AA z&& !decide (z=k)):=by
 funext z
 by_cases hz:z=k
 ·subst hz;rw[U6];unfold A1j;rw[hm,if_pos h];simp[hR]
 ·rw[R9 _ _ _ _ hz];unfold A1j;simp[hz]
theorem B1H (m R:KV) (typ:Int) (AA:List UInt8->Bool) (k:List UInt8) (ht:AA k=true):A1j m R typ AA k=m k:=by
 unfold A1j;cases m k with
 |some v=>rfl
 |none=>rw[ht];rfl
theorem AF.other {G0:Nat} {E:Nat->Addr} {b0:Nat} {H:Hd} {R:KV} {u p g q:Bool} {m:KV} {n:Nat} {w w':World} (h:AF G0 E b0 H R u p g q m n w) {j:Nat} (f:Fr w.heap.size [j] w w') (hj:b0+7<j):AF G0 E b0 H R u p g q m n w':=by
 obtain⟨k0,k1,k2,k3,k4,k5,k6,k7,k8,k9⟩:=h.kept f (by omega);exact⟨k0,h.le,k1,k2 (by omega),k3 (by omega),k4 (by omega),k5 (by omega),k6 (by omega),k7 (by omega),k8 (by omega),k9⟩
theorem A8M {fn:Func} {p q u:Tmp} (h:fn.results=#[.cell p 128,.cell q 127,.tmp u]) (AA:Array Value) (w:World) (a b:Addr) (x y:Value) (hp:AA.getD p undef= .pointer (some a)) (hq:AA.getD q undef= .pointer (some b)) (ca:w.cell? a=some x) (cb:w.cell? b=some y):
  (results fn AA).run Tryz.prog w= .ok (.tuple #[x,y,AA.getD u undef]) w:=by
 have AB:AA[p]?.getD undef= .pointer (some a):=by simpa using hp
 have AC:AA[q]?.getD undef= .pointer (some b):=by simpa using hq
 simp[results,h,AB,AC,asAddr,Sem.run_bind,Result.andThen,loadVar,Tryz.isAgg127,Tryz.isAgg128,ca,cb]
noncomputable def B7S:Code:=I2 44 (Tryz.f65.body.getD .skip)
noncomputable def B5B:Code:=I2 53 (Tryz.f65.body.getD .skip)
noncomputable def B7T:Code:=I2 65 (Tryz.f65.body.getD .skip)
def A9s (G0:Nat) (E:Nat->Addr) (b0:Nat) (H:Hd) (R:KV) (S:St) (rb nR r0:Nat) (w wr:World):Prop:=
 ∃AA AB n2,K9 wr rb r0 nR R AA AB/\AF G0 E b0 H R S.u S.p S.g S.q (A1j S.m R H.typ AA) n2 wr/\n2+AB<=26+nR/\Below b0 w wr
def A9w (G0:Nat) (E:Nat->Addr) (b0:Nat) (H:Hd) (R:KV) (u p g q:Bool) (m:KV) (n2 r1:Nat) (w wr:World):Prop:=
 ∃AA AB,K9 wr (b0+3) r1 n2 m AA AB/\AF G0 E b0 H R u p g q m n2 wr/\Below b0 w wr
theorem M9.isMap2 {w:World} {b n:Nat} {m:List UInt8->Option (List UInt8)} (h:M9 w b n m):∃es cl,w.heap[b]?=some (.map es cl):=by
 obtain⟨D,⟨es,AA,h1,h2⟩,h3⟩:=h;exact⟨es,AA,h1⟩
structure IH where
 typ:Int
 name:List UInt8
 link:List UInt8
 size:Int
 mode:Int
 uid:Int
 gid:Int
 user:List UInt8
 group:List UInt8
 ms:Int
 mn:Int
 hasA:Bool
 ats:Int
 atn:Int
 hasC:Bool
 cts:Int
 ctn:Int
 maj:Int
 mnr:Int
 recs:Value
 fmt:Int
def IH.cells (h:IH):List Value:=[.int .u8 h.typ,str h.name,str h.link,.int .i64 h.size,.int .i64 h.mode,.int .i64 h.uid,.int .i64 h.gid,str h.user,str h.group,.int .i64 h.ms,.int .i64 h.mn,.bool h.hasA,.int .i64 h.ats,.int .i64 h.atn,.bool h.hasC,.int .i64 h.cts,.int .i64 h.ctn,.int .i64 h.maj,.int .i64 h.mnr,h.recs,.int .i64 h.fmt]
def X9 (n:Int):Int:=if n=1 then 2 else if n=2 then 4 else if n=3 then 8 else 0
theorem A6q (w:World) (n:Int):Calls Tryz.prog 71 #[.int .i64 n] w (C4 w (.int .i64 (X9 n))):=by
 by_cases h1:n=1
 ·subst h1
  go_enter Tryz.func71,Tryz.ntmps71
  go_wp2
  go_ret
  exact⟨rfl,rfl⟩
 by_cases h2:n=2
 ·subst h2
  go_enter Tryz.func71,Tryz.ntmps71
  go_wp2
  go_ret
  exact⟨rfl,rfl⟩
 by_cases h3:n=3
 ·subst h3
  go_enter Tryz.func71,Tryz.ntmps71
  go_wp2
  go_ret
  exact⟨rfl,rfl⟩
 have e:X9 n=0:=by unfold X9;rw[if_neg h1,if_neg h2,if_neg h3]
 have q1: (n==1)=false:=by rw[beq_eq_false_iff_ne];exact h1
 have q2: (n==2)=false:=by rw[beq_eq_false_iff_ne];exact h2
 have q3: (n==3)=false:=by rw[beq_eq_false_iff_ne];exact h3
 rw[e];clear h1 h2 h3 e;go_enter Tryz.func71,Tryz.ntmps71
 go_wp2
 go_ret
 exact⟨rfl,rfl⟩
def tx (s:Int):Int:=wrap64 (s+62135596800)
theorem B3Z {s:Int} (h: -200000000000000000<=s/\s<=200000000000000000):tx s=s+62135596800:=by unfold tx wrap64;omega
theorem A9g (w:World) (s n:Int) (h0:0<=n) (h1:n<1000000000):
  Calls Tryz.prog 145 #[.int .i64 s,.int .i32 n] w λe w'=>e= .returned (tmV n (tx s))/\Below w.heap.size w w':=by
 have e:IntKind.i64.wrap (s+62135596800)=tx s:=by rw[IntKind.wrap_i64];unfold tx wrap64;omega
 go_enter Tryz.func145,Tryz.ntmps145
 go_wp2
 exact A0M w.heap.size n (tx s) _ rfl rfl rfl (heap_alloc_new w _) ⟨rfl,(Below.refl _ w).alloc (Nat.le_refl _) _⟩
theorem B6G (w:World) (s n:Int) (h0:0<=n) (h1:n<1000000000):
  Calls Tryz.prog 70 #[.int .i64 s,.int .i64 n] w λe w'=>e= .returned (tmV n (tx s))/\Below w.heap.size w w':=by
 have h:=λw'=>A9g w' s n h0 h1;have h2:¬n<0:=by omega
 have h3:¬(1000000000:Int)<=n:=by omega
 go_enter Tryz.func70,Tryz.ntmps70
 go_wp2_with fail
 refine(h _).mono ?_;rintro e w1 ⟨rfl,hb⟩;have a1:=(hb.block w.heap.size (by simp)).trans (heap_alloc_new w (.cells #[.int .u64 0,.int .i64 0] 126));have AA:Below w.heap.size w w1:=((Below.refl _ w).alloc (Nat.le_refl _) _).trans (hb.mono (by simp));have z0:=Lib.frozen_of_heap a1 0;have z1:=Lib.frozen_of_heap a1 1;have d0:w1.cell? ⟨w.heap.size,0,none⟩=some (.int .u64 0):=by rw[Lib.cell_of_heap a1];rfl
 have d1:w1.cell? ⟨w.heap.size,1,none⟩=some (.int .i64 0):=by rw[Lib.cell_of_heap a1];rfl
 have a2:=B6 (i:=1) (.int .i64 (tx s)) (B6 (i:=0) (.int .u64 n) a1);have AB:=(AA.setCell (p:=⟨w.heap.size,0,none⟩) (Nat.le_refl _) (.int .u64 n)).setCell (p:=⟨w.heap.size,1,none⟩) (Nat.le_refl _) (.int .i64 (tx s));have A2:=A0 a2;have HB:=A0 AB;clear a1 a2 AB hb AA h;go_wp2_with fail
 exact A0M w.heap.size n (tx s) _ rfl rfl rfl A2.out ⟨rfl,HB.out⟩
theorem B8q (w:World) (s n:Int) (h0:0<=n) (h1:n<1000000000) (hs: -200000000000000000<=s/\s<=200000000000000000):
  Calls Tryz.prog 70 #[.int .i64 s,.int .i64 n] w λe w'=>e= .returned (tmV n (s+62135596800))/\Below w.heap.size w w':=by
 have:=B6G w s n h0 h1;rwa [B3Z hs] at this
structure IH.In (h:IH):Prop where
 mn:0<=h.mn/\h.mn<1000000000
 ms: -200000000000000000<=h.ms/\h.ms<=200000000000000000
 atn:h.hasA=true->0<=h.atn/\h.atn<1000000000
 ctn:h.hasC=true->0<=h.ctn/\h.ctn<1000000000
theorem L6 {w:World} {g:Nat} {h:IH} (hh:w.heap[g]?=some (.cells h.cells.toArray 26 (0,0))) (k:Nat) (v:Value) (hv:h.cells[k]?=some v):w.cell? ⟨g,k,none⟩=some v:=by
 rw[Lib.cell_of_heap hh,List.getElem?_toArray];exact hv
def IHC (g:Nat) (h:IH) (w:World):Prop:=w.heap[g]?=some (.cells h.cells.toArray 26 (0,0))
def IH.hd0 (h:IH):Hd:=⟨h.typ,h.name,h.link,h.size,h.mode,h.uid,h.gid,h.user,h.group,h.mn,h.ms+62135596800,0,0,0,0,h.maj,h.mnr,.map none,.map none,X9 h.fmt⟩
def IH.hd1 (h:IH):Hd:= {h.hd0 with aw:=if h.hasA then h.atn else 0,ax:=if h.hasA then tx h.ats else 0}
def IH.hd2 (h:IH):Hd:= {h.hd1 with cw:=if h.hasC then h.ctn else 0,cx:=if h.hasC then tx h.cts else 0}
def HS (g oh:Nat) (h:IH) (H:Hd) (w wx:World):Prop:=wx.heap[g]?=some (.cells h.cells.toArray 26 (0,0))/\wx.heap[oh]?=some (.cells H.cells.toArray 130 (0,0))/\Below g w wx/\g<oh
def N5 (w:World) (v:Value) (L:List (List UInt8×List UInt8)):Prop:=∃p c,v= .slice p L.length c/\∀ (j:Nat) (hj:j<L.length),∃rg ro,p=some ⟨rg,ro,none⟩/\rg<w.heap.size/\w.cell? ⟨rg,ro+j*2,none⟩=some (str L[j].1)/\w.cell? ⟨rg,ro+j*2+1,none⟩=some (str L[j].2)
def B5G (g oh mb:Nat) (h:IH) (L:List (List UInt8×List UInt8)) (i:Nat) (w wr:World):Prop:=
 i<=L.length/\wr.heap[g]?=some (.cells h.cells.toArray 26 (0,0))/\wr.heap[oh]?=some (.cells ({h.hd2 with recs:= .map (some mb)}:Hd).cells.toArray 130 (0,0))/\M9 wr mb i (E0 (λ_=>none) (L.take i))/\Below g w wr/\g<oh
theorem A9B (w:World) (h:IH) (Aj:h.In) (L:List (List UInt8×List UInt8)) (hL:N5 w h.recs L) (BO:L.length<=1048576) (Ae:∀p∈L,p.1.length<=9223372036854775807/\p.2.length<=9223372036854775807):
  Calls Tryz.prog 31 #[.agg h.cells.toArray] w λe w'=>∃oh rv,e= .returned (.pointer (some ⟨oh,0,none⟩))/\w'.heap[oh]?=some (.cells ({h.hd2 with recs:=rv}:Hd).cells.toArray 130 (0,0))/\J4 w' rv (E0 (λ_=>none) L) w'.heap.size/\Below w.heap.size w w'/\w.heap.size<=oh/\rv.oneCell'=true:=by
 have AA:=heap_alloc_new w (.cells h.cells.toArray 26);have AL:=A0 Aj;have HL:=A0 hL;have As:=A0 Ae;clear Aj hL Ae;go_enter Tryz.func31,Tryz.ntmps31
 go_upto_region 1 with fail
 generalize Am:w.alloc (.cells h.cells.toArray 26)=w0 at*;generalize hg:w.heap.size=g at*;have d0:=L6 AA 0 (.int .u8 h.typ) rfl;have d1:=L6 AA 1 (str h.name) rfl;have d2:=L6 AA 2 (str h.link) rfl;have d3:=L6 AA 3 (.int .i64 h.size) rfl;have d4:=L6 AA 4 (.int .i64 h.mode) rfl;have d5:=L6 AA 5 (.int .i64 h.uid) rfl;have d6:=L6 AA 6 (.int .i64 h.gid) rfl;have d7:=L6 AA 7 (str h.user) rfl;have d8:=L6 AA 8 (str h.group) rfl;have d9:=L6 AA 9 (.int .i64 h.ms) rfl;have aA:=L6 AA 10 (.int .i64 h.mn) rfl;have aB:=L6 AA 17 (.int .i64 h.maj) rfl;have aC:=L6 AA 18 (.int .i64 h.mnr) rfl;have aD:=L6 AA 20 (.int .i64 h.fmt) rfl;have HN:=A0 AA;have HT:=A0 (B8q w0.drew h.ms h.mn AL.out.mn.1 AL.out.mn.2 AL.out.ms);have Aq:=A0 A6q;have AB:=block_lt_of_cell d0;have Ab:Below g w w0:=by rw[<-Am,<-hg];exact(Below.refl _ w).alloc (Nat.le_refl _) _
 have Ao:=A0 Ab;have HG:=A0 hg;clear AA Am Ab hg
 go_region_held3 (λw'=>w'.cell? ⟨g,0,none⟩=some (.int .u8 h.typ)/\w'.cell? ⟨g,1,none⟩=some (str h.name)/\w'.cell? ⟨g,2,none⟩=some (str h.link)/\w'.cell? ⟨g,3,none⟩=some (.int .i64 h.size)/\w'.cell? ⟨g,4,none⟩=some (.int .i64 h.mode)/\w'.cell? ⟨g,5,none⟩=some (.int .i64 h.uid)/\w'.cell? ⟨g,6,none⟩=some (.int .i64 h.gid)/\w'.cell? ⟨g,7,none⟩=some (str h.user)/\w'.cell? ⟨g,8,none⟩=some (str h.group)/\w'.cell? ⟨g,9,none⟩=some (.int .i64 h.ms)/\w'.cell? ⟨g,10,none⟩=some (.int .i64 h.mn)/\w'.cell? ⟨g,17,none⟩=some (.int .i64 h.maj)/\w'.cell? ⟨g,18,none⟩=some (.int .i64 h.mnr)/\w'.cell? ⟨g,20,none⟩=some (.int .i64 h.fmt)) (first|go_keep|(refine⟨?_,?_,?_,?_,?_,?_,?_,?_,?_,?_,?_,?_,?_,?_⟩<;>assumption)) (first|(go_at_call 70;refine HT.out.mono ?_;rintro e w1 ⟨rfl,AC⟩;have e0:=(AC.cell (p:=⟨g,0,none⟩) AB).trans d0;have e1:=(AC.cell (p:=⟨g,1,none⟩) AB).trans d1;have e2:=(AC.cell (p:=⟨g,2,none⟩) AB).trans d2;have e3:=(AC.cell (p:=⟨g,3,none⟩) AB).trans d3;have e4:=(AC.cell (p:=⟨g,4,none⟩) AB).trans d4;have e5:=(AC.cell (p:=⟨g,5,none⟩) AB).trans d5;have e6:=(AC.cell (p:=⟨g,6,none⟩) AB).trans d6;have e7:=(AC.cell (p:=⟨g,7,none⟩) AB).trans d7;have e8:=(AC.cell (p:=⟨g,8,none⟩) AB).trans d8;have e9:=(AC.cell (p:=⟨g,9,none⟩) AB).trans d9;have Au:=(AC.cell (p:=⟨g,10,none⟩) AB).trans aA;have Av:=(AC.cell (p:=⟨g,17,none⟩) AB).trans aB;have Aw:=(AC.cell (p:=⟨g,18,none⟩) AB).trans aC;have Ax:=(AC.cell (p:=⟨g,20,none⟩) AB).trans aD)|(go_at_call 71;refine(Aq.out _ _).mono ?_;rintro e wx ⟨rfl,rfl⟩))
 have Ai:g<w1.heap.size:=by have:=AC.size;have:w0.drew.heap.size=w0.heap.size:=rfl;omega
 have AQ:HS g w1.heap.size h h.hd0 w (w1.alloc (.cells h.hd0.cells.toArray 130)):=by
  refine⟨?_,heap_alloc_new w1 _,?_,Ai⟩
  ·exact(Below.heap_alloc w1 _ g Ai).trans ((AC.block g AB).trans HN.out)
  ·exact(Ao.out.drew.trans (AC.mono (show g<=w0.drew.heap.size by show g<=w0.heap.size;omega))).alloc (by omega) _
 have AH:=(AC.cell (p:=⟨g,11,none⟩) AB).trans (L6 HN.out 11 (.bool h.hasA) rfl);have AJ:=A0 AQ;clear AQ d0 d1 d2 d3 d4 d5 d6 d7 d8 d9 aA aB aC aD e0 e1 e2 e3 e4 e5 e6 e7 e8 e9 Au Av Aw Ax HT;generalize BF:w1.heap.size=oh at*;have An: (w1.alloc (.cells #[.int .u8 h.typ,str h.name,str h.link,.int .i64 h.size,.int .i64 h.mode,.int .i64 h.uid,.int .i64 h.gid,str h.user,str h.group,.int .u64 h.mn,.int .i64 (h.ms+62135596800),.int .u64 0,.int .i64 0,.int .u64 0,.int .i64 0,.int .i64 h.maj,.int .i64 h.mnr,.map none,.map none,.int .i64 (X9 h.fmt)] 130))=w1.alloc (.cells h.hd0.cells.toArray 130):=rfl;rw[An];clear An;generalize BI:w1.alloc (.cells h.hd0.cells.toArray 130)=v0 at*;have AH:=L6 AJ.out.1 11 (.bool h.hasA) rfl;clear AC BI BF;have AD:=AJ;clear AJ;obtain⟨vv,BL⟩:∃vv,vv=v0:=⟨_,rfl⟩;subst BL;go_upto_if 41 with fail
 go_cut [] (λwx=>HS g oh h h.hd1 w wx)
 case first=>
  cases hA:h.hasA
  ·rw[hA] at AH
   go_wp2_with fail
   go_meet
   have e:h.hd1=h.hd0:=by unfold IH.hd1;rw[hA];rfl
   rw[e];exact AD.out
  ·rw[hA] at AH
   have AT:=L6 AD.out.1 12 (.int .i64 h.ats) rfl;have AU:=L6 AD.out.1 13 (.int .i64 h.atn) rfl;have HT:=A0 (B6G vv h.ats h.atn (AL.out.atn hA).1 (AL.out.atn hA).2);go_wp2_with fail
   refine HT.out.mono ?_;rintro e w2 ⟨rfl,AO⟩;obtain⟨p1,p2,p3,p4⟩:=AD.out;have q1:=(AO.block g (A8 p1)).trans p1;have q2:=(AO.block oh (A8 p2)).trans p2;have q3:Below g w w2:=p3.trans (AO.mono (Nat.le_of_lt (A8 p1)));have c1:w2.cell? ⟨oh,11,none⟩=some (.int .u64 0):=by rw[Lib.cell_of_heap q2];rfl
   have c2:w2.cell? ⟨oh,12,none⟩=some (.int .i64 0):=by rw[Lib.cell_of_heap q2];rfl
   have z1:w2.frozen? ⟨oh,11,none⟩=false:=Lib.frozen_of_heap q2 11;have z2:w2.frozen? ⟨oh,12,none⟩=false:=Lib.frozen_of_heap q2 12;have r1:=B6 (i:=11) (.int .u64 h.atn) q2;have r2:=B6 (i:=12) (.int .i64 (tx h.ats)) r1;have t1:=(C0 (w:=w2.setCell ⟨oh,11,none⟩ (.int .u64 h.atn)) (a:=⟨oh,12,none⟩) (k:=g) (.int .i64 (tx h.ats)) (by show g≠oh;omega)).trans ((C0 (w:=w2) (a:=⟨oh,11,none⟩) (k:=g) (.int .u64 h.atn) (by show g≠oh;omega)).trans q1)
   have AE:HS g oh h h.hd1 w ((w2.setCell ⟨oh,11,none⟩ (.int .u64 h.atn)).setCell ⟨oh,12,none⟩ (.int .i64 (tx h.ats))):=by
    have e:h.hd1.cells=(h.hd0.cells.set 11 (.int .u64 h.atn)).set 12 (.int .i64 (tx h.ats)):=by unfold IH.hd1;rw[hA];rfl
    refine⟨t1,?_,(q3.setCell (p:=⟨oh,11,none⟩) (Nat.le_of_lt p4) _).setCell (p:=⟨oh,12,none⟩) (Nat.le_of_lt p4) _,p4⟩;rw[r2,e];rfl
   have AI:=A0 AE;clear p1 p2 p3 q1 q2 q3 r1 r2 t1 AE AT AU;go_wp2_with fail
   go_meet
   exact AI.out
 case rest=>
  have AD:=A0 hcut;clear AH hcut;obtain⟨v1,rfl⟩:∃v1:World,v1=wc:=⟨_,rfl⟩;have AH:=L6 AD.out.1 14 (.bool h.hasC) rfl;go_upto_if 53 with fail
  go_cut [] (λwx=>HS g oh h h.hd2 w wx)
  case first=>
   cases hA:h.hasC
   ·rw[hA] at AH
    go_wp2_with fail
    go_meet
    have e:h.hd2=h.hd1:=by unfold IH.hd2;rw[hA];rfl
    rw[e];exact AD.out
   ·rw[hA] at AH
    have AT:=L6 AD.out.1 15 (.int .i64 h.cts) rfl;have AU:=L6 AD.out.1 16 (.int .i64 h.ctn) rfl;have HT:=A0 (B6G v1 h.cts h.ctn (AL.out.ctn hA).1 (AL.out.ctn hA).2);go_wp2_with fail
    refine HT.out.mono ?_;rintro e w2 ⟨rfl,AO⟩;obtain⟨p1,p2,p3,p4⟩:=AD.out;have q1:=(AO.block g (A8 p1)).trans p1;have q2:=(AO.block oh (A8 p2)).trans p2;have q3:Below g w w2:=p3.trans (AO.mono (Nat.le_of_lt (A8 p1)));have c1:w2.cell? ⟨oh,13,none⟩=some (.int .u64 0):=by rw[Lib.cell_of_heap q2];rfl
    have c2:w2.cell? ⟨oh,14,none⟩=some (.int .i64 0):=by rw[Lib.cell_of_heap q2];rfl
    have z1:w2.frozen? ⟨oh,13,none⟩=false:=Lib.frozen_of_heap q2 13;have z2:w2.frozen? ⟨oh,14,none⟩=false:=Lib.frozen_of_heap q2 14;have r1:=B6 (i:=13) (.int .u64 h.ctn) q2;have r2:=B6 (i:=14) (.int .i64 (tx h.cts)) r1;have t1:=(C0 (w:=w2.setCell ⟨oh,13,none⟩ (.int .u64 h.ctn)) (a:=⟨oh,14,none⟩) (k:=g) (.int .i64 (tx h.cts)) (by show g≠oh;omega)).trans ((C0 (w:=w2) (a:=⟨oh,13,none⟩) (k:=g) (.int .u64 h.ctn) (by show g≠oh;omega)).trans q1)
    have AE:HS g oh h h.hd2 w ((w2.setCell ⟨oh,13,none⟩ (.int .u64 h.ctn)).setCell ⟨oh,14,none⟩ (.int .i64 (tx h.cts))):=by
     have e:h.hd2.cells=(h.hd1.cells.set 13 (.int .u64 h.ctn)).set 14 (.int .i64 (tx h.cts)):=by unfold IH.hd2;rw[hA];rfl
     refine⟨t1,?_,(q3.setCell (p:=⟨oh,13,none⟩) (Nat.le_of_lt p4) _).setCell (p:=⟨oh,14,none⟩) (Nat.le_of_lt p4) _,p4⟩;rw[r2,e];rfl
    have AI:=A0 AE;clear p1 p2 p3 q1 q2 q3 r1 r2 t1 AE AT AU;go_wp2_with fail
    go_meet
    exact AI.out
  case rest=>
   have AD:=A0 hcut;clear AH hcut;obtain⟨v2,rfl⟩:∃v2:World,v2=wc:=⟨_,rfl⟩;obtain⟨p,c,hv,Ah⟩:=HL.out;have AV:=L6 AD.out.1 19 h.recs rfl;rw[hv] at AV;have Aa:=A0 Ah;have BJ:=hv;have Ap:=Aa;clear Ah hv;by_cases Ad:L.length=0
   ·rw[Ad] at AV
    go_wp2_with fail
    go_ret
    have Ay:L=[]:=List.eq_nil_of_length_eq_zero Ad;obtain⟨p1,p2,p3,p4⟩:=AD.out;refine⟨oh,.map none,rfl,p2,.inl ⟨rfl,λk=>by rw[Ay];rfl⟩,by rw[HG.out];exact p3,by rw[HG.out];omega,rfl⟩
   ·have BM: (0:Int)< (L.length:Int):=by omega
    have BE:v2.cell? ⟨oh,18,none⟩=some (.map none):=by rw[Lib.cell_of_heap AD.out.2.1];rfl
    have BH:v2.frozen? ⟨oh,18,none⟩=false:=Lib.frozen_of_heap AD.out.2.1 18;have BC:=@run_makeMap Tryz.prog;have BQ:oh<v2.heap.size:=A8 AD.out.2.1;have BP:g<v2.heap.size:=A8 AD.out.1;go_upto_region 8 with fail
    have AM:B5G g oh v2.heap.size h L 0 w ((v2.setCell ⟨oh,18,none⟩ (.map (some v2.heap.size))).alloc (.map #[] 0)):=by
     obtain⟨p1,p2,p3,p4⟩:=AD.out;have Al: (v2.setCell ⟨oh,18,none⟩ (.map (some v2.heap.size))).heap.size=v2.heap.size:=by simp[World.setCell]
     have q2:=B6 (i:=18) (.map (some v2.heap.size)) p2;have q1:=(C0 (w:=v2) (a:=⟨oh,18,none⟩) (k:=g) (.map (some v2.heap.size)) (by show g≠oh;omega)).trans p1;have q3:=p3.setCell (p:=⟨oh,18,none⟩) (Nat.le_of_lt p4) (.map (some v2.heap.size));have hm:=M9.made (v2.setCell ⟨oh,18,none⟩ (.map (some v2.heap.size)));rw[Al] at hm;have hx:∀k o,(v2.setCell ⟨oh,18,none⟩ (.map (some v2.heap.size))).heap[k]?=some o->((v2.setCell ⟨oh,18,none⟩ (.map (some v2.heap.size))).alloc (.map #[] 0)).heap[k]?=some o:=λk o hk=>(Below.heap_alloc _ _ k (A8 hk)).trans hk;refine⟨Nat.zero_le _,hx _ _ q1,?_,hm,q3.alloc (by rw[Al];omega) _,p4⟩;exact(hx _ _ q2).trans rfl
    have AG:=A0 AM
    have AP: ((v2.setCell ⟨oh,18,none⟩ (.map (some v2.heap.size))).alloc (.map #[] 0)).cell? ⟨g,19,none⟩=some (.slice p L.length c):=by
     rw[Lib.cell_of_heap AM.2.1,<-BJ];rfl
    clear AM BE BH BC AV;go_wp2_with fail
    obtain⟨mb,AX⟩:∃mb,mb=v2.heap.size:=⟨_,rfl⟩;have Az:g<=mb:=by rw[AX];omega
    rw[<-AX] at AG⊢;clear AX;go_loopw [75] (λs75 wr=>∃i:Nat,s75= .int .i64 i/\Hid (B5G g oh mb h L i w wr)) (λs75 _=>L.length- (intOf s75).toNat)
    case atStart=>exact⟨0,rfl,AG⟩
    case round=>
     obtain⟨i,rfl,hrel⟩:=hrel;obtain⟨hi,p1,p2,p3,p4,p5⟩:=hrel.out;by_cases AB:i<L.length
     ·obtain⟨rg,ro,rfl,BS,k1,k2⟩:=Aa.out i AB
      have ck:wr.cell? ⟨rg,ro+i*2,none⟩=some (str L[i].1):=(p4.cell (p:=⟨rg,ro+i*2,none⟩) (by have:=HG.out;show rg<g;omega)).trans k1;have cv:wr.cell? ⟨rg,ro+i*2+1,none⟩=some (str L[i].2):=(p4.cell (p:=⟨rg,ro+i*2+1,none⟩) (by have:=HG.out;show rg<g;omega)).trans k2;have aF:wr.cell? ⟨oh,18,none⟩=some (.map (some mb)):=by rw[Lib.cell_of_heap p2];rfl
      have BR:oh<wr.heap.size:=A8 p2;clear hrel k1 k2 AG AP;generalize Af:L[i].1=kk at*;generalize Ag:L[i].2=AZ at*;have HP:=A0 (And.intro p1 (And.intro p2 (And.intro p3 (And.intro p4 p5))));clear p1 p2 p3 p4 p5;go_upto_region 11 with fail
      have AR:Below wr.heap.size wr ((wr.alloc (.cells #[.string ⟨kk.toArray⟩,.string ⟨AZ.toArray⟩] 59)).drew):=((Below.refl _ wr).alloc (Nat.le_refl _) _).drew;obtain⟨AW,AY⟩:=As.out _ (List.getElem_mem AB);rw[Af] at AW;rw[Ag] at AY;obtain⟨w9,BT,Ak,AS⟩:=(HP.out.2.2.1.below AR).update A0p (by omega) kk AZ AW AY
      have Ac:B5G g oh mb h L (i+1) w w9:=by
       obtain⟨p1,p2,p3,p4,p5⟩:=HP.out;obtain⟨es,cl,he⟩:=p3.isMap2;have BA:g≠mb:=by rintro rfl;rw[p1] at he;cases he
       have BD:oh≠mb:=by rintro rfl;rw[p2] at he;cases he
       have q1:=(AR.block g (A8 p1)).trans p1;have q2:=(AR.block oh (A8 p2)).trans p2
       have e:E0 (λ_=>none) (L.take (i+1))=O2 (E0 (λ_=>none) (L.take i)) kk AZ:=by
        rw[List.take_succ_eq_append_getElem AB,A5H];show O2 _ L[i].1 L[i].2=_
        rw[Af,Ag]
       refine⟨by omega,AS.same q1 (by simpa using BA) (.inl (A8 q1)),AS.same q2 (by simpa using BD) (.inl (A8 q2)),by rw[e];exact Ak,(p4.trans (AR.mono (Nat.le_of_lt (A8 p1)))).trans (Fr.below_of AS (Nat.le_of_lt (A8 q1)) ?_),p5⟩;intro k hk;rw[List.mem_singleton.1 hk];exact Az
      have Ar:=A0 Ac;clear AR Ak AS Ac AW AY;go_region
      go_wp2_with fail
      go_roundw
      case rel=>exact⟨i+1,by go_num,Ar⟩
      case measure=>simp[intOf];omega
     ·obtain rfl:i=L.length:=by omega
      clear hrel AG AP;have HP:=A0 (And.intro p1 (And.intro p2 (And.intro p3 (And.intro p4 p5))));clear p1 p2 p3 p4 p5;go_wp2_with fail
      go_ret
      obtain⟨p1,p2,p3,p4,p5⟩:=HP.out;rw[List.take_length] at p3;exact⟨oh,rfl,.map (some mb),p2,.inr ⟨mb,L.length,rfl,p3.lt,p3,by omega⟩,by rw[HG.out];exact p4,by rw[HG.out];omega,rfl⟩
theorem B7X {R:Ending->World->Prop} {fn:Func} {t:Tmp} {a:Act} (g:Nat) (x y:Value) (w:World) (hr:fn.results=#[.cell t 23]) (hp:a.tmps.getD t undef= .pointer (some ⟨g,0,none⟩)) (hd:a.defers=[])
  (hg:w.heap[g]?=some (.cells #[x,y] 23 (0,0))) (hR:R (.returned (.agg #[x,y])) w):bodyPost Tryz.prog fn R .ret a w:=
 bodyPost_ret (results_cell_row hr _ _ g 23 #[x,y] (0,0) _ hp hg Tryz.underlying23 rfl (by kernel_rfl)) hd hR
theorem A9i (w:World) (n x:Int) (h0:0<=n) (h1:n<1000000000) (hx: -100000000000000000<=x-62135596800/\x-62135596800<=100000000000000000):
  Calls Tryz.prog 73 #[tmV n x] w λe w'=>e= .returned (.agg #[.int .i64 (x-62135596800),.int .i64 n])/\Below w.heap.size w w':=by
 have hU:=λwx=>A0k wx n x h0 h1 hx;have hN:=λwx=>A6a wx n x h0 h1;have HU:=A0 hU;have HN:=A0 hN;clear hU hN;go_enter Tryz.func73,Tryz.ntmps73
 go_upto_region 1 with fail
 have a1: ((w.alloc (.cells #[.int .u64 n,.int .i64 x] 126)).alloc (.cells #[.int .i64 0,.int .i64 0] 23)).heap[w.heap.size]?=some (.cells #[.int .u64 n,.int .i64 x] 126 (0,0)):=heap_alloc2_old w _ _;have a2: ((w.alloc (.cells #[.int .u64 n,.int .i64 x] 126)).alloc (.cells #[.int .i64 0,.int .i64 0] 23)).heap[w.heap.size+1]?=some (.cells #[.int .i64 0,.int .i64 0] 23 (0,0)):=heap_alloc2_new w _ _;have hb:Below w.heap.size w ((w.alloc (.cells #[.int .u64 n,.int .i64 x] 126)).alloc (.cells #[.int .i64 0,.int .i64 0] 23)):=((Below.refl _ _).alloc (Nat.le_refl _) _).alloc (by simp) _;generalize (w.alloc (.cells #[.int .u64 n,.int .i64 x] 126)).alloc (.cells #[.int .i64 0,.int .i64 0] 23)=w1 at*;have c0:w1.cell? ⟨w.heap.size,0,none⟩=some (.int .u64 n):=by rw[Lib.cell_of_heap a1];rfl
 have c1:w1.cell? ⟨w.heap.size,1,none⟩=some (.int .i64 x):=by rw[Lib.cell_of_heap a1];rfl
 have AC:=A0 a2;have HB:=A0 hb;have l1:=A8 a1;have l2:=A8 a2;clear a1 a2 hb
 go_region_held3 (λw'=>w'.cell? ⟨w.heap.size,0,none⟩=some (.int .u64 n)/\w'.cell? ⟨w.heap.size,1,none⟩=some (.int .i64 x)) (first|go_keep|(refine And.intro ?_ ?_<;>assumption))
  (first|(go_at_call 103;refine(HU.out _).mono ?_;rintro e w2 ⟨rfl,AD⟩;have AA:=A0 AD;have d0:=(AD.cell (p:=⟨w.heap.size,0,none⟩) l1).trans c0;have d1:=(AD.cell (p:=⟨w.heap.size,1,none⟩) l1).trans c1;clear AD)|(go_at_call 104;refine(HN.out _).mono ?_;rintro e w3 ⟨rfl,AB⟩;have AE:=A0 AB;have e0:=(AB.cell (p:=⟨w.heap.size,0,none⟩) (Nat.lt_of_lt_of_le l1 AA.out.size)).trans d0;have e1:=(AB.cell (p:=⟨w.heap.size,1,none⟩) (Nat.lt_of_lt_of_le l1 AA.out.size)).trans d1;have z0:w3.frozen? ⟨w.heap.size+1,0,none⟩=false:=Lib.frozen_of_heap ((AB.block (w.heap.size+1) (Nat.lt_of_lt_of_le l2 AA.out.size)).trans ((AA.out.block (w.heap.size+1) l2).trans AC.out)) 0;have z1:w3.frozen? ⟨w.heap.size+1,1,none⟩=false:=Lib.frozen_of_heap ((AB.block (w.heap.size+1) (Nat.lt_of_lt_of_le l2 AA.out.size)).trans ((AA.out.block (w.heap.size+1) l2).trans AC.out)) 1;have y0:w3.cell? ⟨w.heap.size+1,0,none⟩=some (.int .i64 0):=(by rw[Lib.cell_of_heap ((AB.block (w.heap.size+1) (Nat.lt_of_lt_of_le l2 AA.out.size)).trans ((AA.out.block (w.heap.size+1) l2).trans AC.out))];rfl);have y1:w3.cell? ⟨w.heap.size+1,1,none⟩=some (.int .i64 0):=(by rw[Lib.cell_of_heap ((AB.block (w.heap.size+1) (Nat.lt_of_lt_of_le l2 AA.out.size)).trans ((AA.out.block (w.heap.size+1) l2).trans AC.out))];rfl)))
 have AG:Below w.heap.size w w3:=HB.out.drew.trans ((AA.out.mono (Nat.le_of_lt l1)).trans (AE.out.mono (Nat.le_of_lt (Nat.lt_of_lt_of_le l1 AA.out.size))));have h3:=(AE.out.block (w.heap.size+1) (Nat.lt_of_lt_of_le l2 AA.out.size)).trans ((AA.out.block (w.heap.size+1) l2).trans AC.out);have h4:=B6 (i:=0) (.int .i64 (x-62135596800)) h3;have h5:=B6 (i:=1) (.int .i64 n) h4;go_wp2_with fail
 refine B7X (w.heap.size+1) (.int .i64 (x-62135596800)) (.int .i64 n) _ rfl rfl rfl h5 ⟨rfl,(AG.setCell (p:=⟨w.heap.size+1,0,none⟩) (Nat.le_succ _) _).setCell (p:=⟨w.heap.size+1,1,none⟩) (Nat.le_succ _) _⟩
theorem B0e (w:World):Calls Tryz.prog 75 #[.int .i64 2] w (C4 w (.int .i64 1)):=by
 go_enter Tryz.func75,Tryz.ntmps75
 go_wp2
 go_ret
 exact⟨rfl,rfl⟩
theorem B0f (w:World):Calls Tryz.prog 75 #[.int .i64 4] w (C4 w (.int .i64 2)):=by
 go_enter Tryz.func75,Tryz.ntmps75
 go_wp2
 go_ret
 exact⟨rfl,rfl⟩
theorem B0g (w:World):Calls Tryz.prog 75 #[.int .i64 8] w (C4 w (.int .i64 3)):=by
 go_enter Tryz.func75,Tryz.ntmps75
 go_wp2
 go_ret
 exact⟨rfl,rfl⟩
def A6p (f:Int):Int:=if f=2 then 1 else if f=4 then 2 else 3
theorem B2K (w:World) (f:Int) (h:f=2\/f=4\/f=8):Calls Tryz.prog 75 #[.int .i64 f] w (C4 w (.int .i64 (A6p f))):=by
 rcases h with rfl|rfl|rfl
 ·exact B0e w
 ·exact B0f w
 ·exact B0g w
end Go.Proofs.YtkanmkcojlefbaaGreatDoor
