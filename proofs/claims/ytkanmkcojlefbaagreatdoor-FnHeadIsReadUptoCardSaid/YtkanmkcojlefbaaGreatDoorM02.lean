/-
  Part of the proof; holds the texts FmtS, Hd, AF, Rd, Full, Flush.
-/
import Derived.Test.YtkanmkcojlefbaaGreatDoorM01
import Derived.Lib.LastIndexLaws
import Derived.Deep.DeepCutAuto
set_option maxRecDepth 100000
set_option linter.unusedSimpArgs false
set_option linter.unusedVariables false
namespace Go.Proofs.YtkanmkcojlefbaaGreatDoor
open Go.RowKit
def E4 (w:World) (g:Nat) (T:TypeId) (AA:List Value) (bs:List UInt8) (post:List Value):Prop:=w.heap[g]?=some (.cells (AA++Lib.byteCells bs++post).toArray T (0,0))
theorem B0K {α:Type} (AB a post AA:List α) (h:AA.length<=a.length): (AB++(a++post)).take AB.length++(AA++(AB++(a++post)).drop (AB.length+AA.length))=AB++((AA++a.drop AA.length)++post):=by
 rw[List.take_left,<-List.drop_drop,List.drop_left,List.drop_append_of_le_length h];simp
theorem A0N (w:World) (g n c:Nat) (s:List UInt8) (T:TypeId) (AC:List Value) (AB:List UInt8) (post:List Value) (h:E4 w g T AC AB post) (hn:AB.length=n):
  (Builtin.copy_ #[35,9] 3 #[.slice (some ⟨g,AC.length,none⟩) n c,str s]).run Tryz.prog w=
   .ok (goInt (min s.length n)) (w.setRow g (AC++Lib.byteCells (s.take n++AB.drop s.length)++post).toArray):=by
 have AA: (Lib.byteCells (s.take n)).length=min s.length n:=by rw[Lib.byteCells_length,List.length_take,Nat.min_comm]
 have AD:=run_storeCells_at Tryz.prog g AC.length T (Lib.byteCells (s.take n)) 0 _ w h (by rw[AA];simp[Lib.byteCells_length,hn];omega) (Lib.byteCells_one _);rw[AA] at AD;simp only[Nat.add_zero] at AD
 obtain⟨i,hi,AH⟩:∃i,Tryz.prog.info? 5=some i/\i.size=1:=by
  have hs: (Tryz.prog.info? 5).map (·.size)=some 1:=by kernel_rfl
  obtain⟨i,hi,e⟩:=Option.map_eq_some_iff.1 hs;exact⟨i,hi,e⟩
 have AE:Nat.min s.length n=min s.length n:=rfl
 have e3:s.take (min s.length n)=s.take n:=by
  rcases Nat.le_total s.length n with h|h
  ·rw[Nat.min_eq_left h,List.take_length,List.take_of_length_le h]
  ·rw[Nat.min_eq_right h]
 have AG:List.take (min s.length n) (List.map (λb:UInt8=>Value.int IntKind.u8 (b.toNat:Int)) s)=Lib.byteCells (s.take n):=by
  rw[<-List.map_take,e3];rfl
 have e4: (Lib.byteCells AB).drop (Lib.byteCells (s.take n)).length=Lib.byteCells (AB.drop s.length):=by
  rw[AA,Lib.byteCells,<-List.map_drop]
  have e5:AB.drop (min s.length n)=AB.drop s.length:=by
   rcases Nat.le_total s.length n with h|h
   ·rw[Nat.min_eq_left h]
   ·rw[Nat.min_eq_right h,List.drop_eq_nil_of_le (by omega),List.drop_eq_nil_of_le (by omega)]
  rw[e5];rfl
 have e2:=B0K AC (Lib.byteCells AB) post (Lib.byteCells (s.take n)) (by rw[AA,Lib.byteCells_length];omega);rw[e4,AA,<-Lib.byteCells_append] at e2;simp[Builtin.copy_,run_underlying Tryz.underlying35,Builtin.lenOf,Builtin.firstCells,sizeOf,typeInfo,hi,AE,I6];rw[AG];simp only[List.append_assoc] at AD e2⊢;rw[AD,e2];simp[Result.andThen];exact congrArg goInt (by omega)
theorem E4.cell {w:World} {g:Nat} {T:TypeId} {AA post:List Value} {bs:List UInt8} (h:E4 w g T AA bs post) (j:Nat) (x:UInt8) (hx:bs[j]?=some x):w.cell? ⟨g,AA.length+j,none⟩=some (.int .u8 x.toNat):=by
 have hj:=(List.getElem?_eq_some_iff.1 hx).1;rw[Lib.cell_of_heap h,List.getElem?_toArray,List.append_assoc,List.getElem?_append_right (by omega),List.getElem?_append_left (by simp[Lib.byteCells_length];omega)];simp[Lib.byteCells,hx]
theorem E4.frozen {w:World} {g:Nat} {T:TypeId} {AA post:List Value} {bs:List UInt8} (h:E4 w g T AA bs post) (j:Nat):w.frozen? ⟨g,AA.length+j,none⟩=false:=Lib.frozen_of_heap h _
theorem E4.set {w:World} {g:Nat} {T:TypeId} {AA post:List Value} {bs:List UInt8} (h:E4 w g T AA bs post) (j:Nat) (hj:j<bs.length) (x:UInt8):
  E4 (w.setCell ⟨g,AA.length+j,none⟩ (.int .u8 x.toNat)) g T AA (bs.set j x) post:=by
 have:=B6 (i:=AA.length+j) (.int .u8 x.toNat) h;rw[E4,this];congr 2
 simp only[List.setIfInBounds_toArray];rw[List.append_assoc,List.set_append_right _ _ (by omega),List.set_append_left _ _ (by simp[Lib.byteCells_length];omega)];simp[Lib.byteCells,List.map_set]
theorem E4.row {w:World} {g:Nat} {T:TypeId} {AA post:List Value} {bs:List UInt8} (h:E4 w g T AA bs post) (AB:List UInt8):E4 (w.setRow g (AA++Lib.byteCells AB++post).toArray) g T AA AB post:=
 setRow_heap w g _ _ T _ h
theorem W8 (w:World) (fb g n c:Nat) (s:List UInt8) (T:TypeId) (AB:List Value) (AA:List UInt8) (post:List Value) (h:E4 w g T AB AA post) (hn:AA.length=n) (AI:n<=c) (AH:n<=512) (hs:s.length<n):
  Calls Tryz.prog 129 #[.pointer (some ⟨fb,0,none⟩),.slice (some ⟨g,AB.length,none⟩) n c,str s] w λe w'=>e= .returned (.tuple #[])/\E4 w' g T AB (s++0::AA.drop (s.length+1)) post/\Fr w.heap.size [g] w w':=by
 have AG:=A0N w g n c s T AB AA post h hn;have h1:=h.row (s.take n++AA.drop s.length);have AC:Fr w.heap.size [g] w (w.setRow g (AB++Lib.byteCells (s.take n++AA.drop s.length)++post).toArray):=(Fr.refl _ _ w).setRow (.inl (by simp)) _;generalize w.setRow g (AB++Lib.byteCells (s.take n++AA.drop s.length)++post).toArray=w1 at*;have e1:s.take n=s:=List.take_of_length_le (by omega);rw[e1] at h1;obtain⟨x,hx⟩:∃x,(s++AA.drop s.length)[s.length]?=some x:=⟨_,List.getElem?_eq_getElem (by simp;omega)⟩;have c1:=h1.cell s.length x hx;have z1:=h1.frozen s.length;have h2:=h1.set s.length (by simp;omega) 0
 have e2: (s++AA.drop s.length).set s.length 0=s++0::AA.drop (s.length+1):=by
  rw[List.set_append_right _ _ (Nat.le_refl _),Nat.sub_self,List.drop_eq_getElem_cons (by omega)];rfl
 rw[e2] at h2;have AD:Fr w.heap.size [g] w (w1.setCell ⟨g,AB.length+s.length,none⟩ (.int .u8 (0:UInt8).toNat)):=AC.setCell (.inl (by simp)) _;have i1: (s.length:Int)<n:=by omega
 have i2:¬(n:Int)<s.length:=by omega
 have i3: ((n:Int))<=c:=by omega
 have H2:=A0 h2;have AE:=A0 AD;have H:=A0 h;clear h2 AD h h1 AC hx e1 e2;go_enter Tryz.func129,Tryz.ntmps129
 go_wp2_with fail
 go_end0
 exact⟨rfl,H2.out,AE.out⟩
theorem A3B (w:World) (fb g n c:Nat) (s:List UInt8) (T:TypeId) (AB:List Value) (AA:List UInt8) (post:List Value) (h:E4 w g T AB AA post) (hn:AA.length=n) (AH:n<=c) (AG:n<=512) (hs:s.length=n):
  Calls Tryz.prog 129 #[.pointer (some ⟨fb,0,none⟩),.slice (some ⟨g,AB.length,none⟩) n c,str s] w λe w'=>e= .returned (.tuple #[])/\E4 w' g T AB s post/\Fr w.heap.size [g] w w':=by
 have AE:=A0N w g n c s T AB AA post h hn;have h1:=h.row (s.take n++AA.drop s.length);have AC:Fr w.heap.size [g] w (w.setRow g (AB++Lib.byteCells (s.take n++AA.drop s.length)++post).toArray):=(Fr.refl _ _ w).setRow (.inl (by simp)) _;generalize w.setRow g (AB++Lib.byteCells (s.take n++AA.drop s.length)++post).toArray=w1 at*;have e1:s.take n++AA.drop s.length=s:=by rw[List.take_of_length_le (by omega),List.drop_eq_nil_of_le (by omega),List.append_nil]
 rw[e1] at h1;have i1:¬(s.length:Int)<n:=by omega
 have i2:¬(n:Int)<s.length:=by omega
 have i3: ((n:Int))<=c:=by omega
 have H2:=A0 h1;have AD:=A0 AC;have H:=A0 h;clear h h1 AC e1;go_enter Tryz.func129,Tryz.ntmps129
 go_wp2_with fail
 go_end0
 exact⟨rfl,H2.out,AD.out⟩
theorem A3C (w:World) (fb g n c:Nat) (s:List UInt8) (T:TypeId) (AA:List Value) (AB:List UInt8) (post:List Value) (AJ:Value) (aE:Addr) (h:E4 w g T AA AB post) (hn:AB.length=n) (AW:n<=c) (AU:0<n) (AV:n<=512) (hs:n<s.length) (hl:s.length<=1048576)
  (AE:w.heap[fb]?=some (.cells #[AJ] 196 (0,0))) (AG:fb≠g) (hE:w.cell? ⟨3,0,none⟩=some (I7 aE)):
  Calls Tryz.prog 129 #[.pointer (some ⟨fb,0,none⟩),.slice (some ⟨g,AA.length,none⟩) n c,str s] w λe w'=>e= .returned (.tuple #[])/\(∃AH:List UInt8,E4 w' g T AA AH post/\AH.length=n/\(∀b∈AH,b=0\/b∈s))/\w'.heap[fb]?=some (.cells #[I7 aE] 196 (0,0))/\Fr w.heap.size [g,fb] w w':=by
 have AT:w.cell? ⟨fb,0,none⟩=some AJ:=by rw[Lib.cell_of_heap AE];rfl
 have AY:w.frozen? ⟨fb,0,none⟩=false:=Lib.frozen_of_heap AE 0;have AC:=B6 (i:=0) (I7 aE) AE;have h0:E4 (w.setCell ⟨fb,0,none⟩ (I7 aE)) g T AA AB post:=(C0 _ (Ne.symm AG)).trans h;have AL:Fr w.heap.size [g,fb] w (w.setCell ⟨fb,0,none⟩ (I7 aE)):=(Fr.refl _ _ w).setCell (.inl (by simp)) _;have AS:=A0N _ g n c s T AA AB post h0 hn;have h1:=h0.row (s.take n++AB.drop s.length);have AD:=(setRow_other (w.setCell ⟨fb,0,none⟩ (I7 aE)) g fb (AA++Lib.byteCells (s.take n++AB.drop s.length)++post).toArray AG).trans AC;have AM:Fr w.heap.size [g,fb] w ((w.setCell ⟨fb,0,none⟩ (I7 aE)).setRow g (AA++Lib.byteCells (s.take n++AB.drop s.length)++post).toArray):=AL.setRow (.inl (by simp)) _;generalize (w.setCell ⟨fb,0,none⟩ (I7 aE)).setRow g (AA++Lib.byteCells (s.take n++AB.drop s.length)++post).toArray=w1 at*;have e1:s.take n++AB.drop s.length=s.take n:=by rw[(List.drop_eq_nil_of_le (by omega):AB.drop s.length=[]),List.append_nil]
 rw[e1] at h1;obtain⟨m,rfl⟩:∃m,n=m+1:=⟨n-1,by omega⟩;obtain⟨x,hx⟩:∃x,(s.take (m+1))[m]?=some x:=⟨_,List.getElem?_eq_getElem (by simp;omega)⟩;have c1:=h1.cell m x hx;have AX:IntKind.i64.wrap (((m+1:Nat):Int)-1)=(m:Int):=by rw[IntWalk.i64_in _ (by omega)];omega
 have i1:¬(s.length:Int)< (m+1:Nat):=by omega
 have i2: ((m+1:Nat):Int)<s.length:=by omega
 have i3: (((m+1:Nat):Int))<=c:=by omega
 have i4: (m:Int)< (m+1:Nat):=by omega
 have i5: (m:Int)<=s.length:=by omega
 have e3: (⟨s.toArray⟩:ByteArray).extract 0 m=⟨(s.take m).toArray⟩:=by rw[L3];simp
 have AR:=λw2=>A0O (s.take m) 47 w2 (by simp;omega)
 have AO: (L5 (s.take m) 47).length<=m:=by
  have h3:=(List.dropWhile_sublist (·==(47:UInt8)) (l:=(s.take m).reverse)).length_le;simp only[L5,List.length_reverse] at h3⊢;simp at h3;omega
 obtain⟨y,hy⟩:∃y,(s.take (m+1))[(L5 (s.take m) 47).length]?=some y:=⟨_,List.getElem?_eq_getElem (by simp;omega)⟩;have c2:=h1.cell _ y hy;have z2:=h1.frozen (L5 (s.take m) 47).length;have h2:=h1.set (L5 (s.take m) 47).length (by simp;omega) 0;generalize hk: (L5 (s.take m) 47).length=k at*;have i6: (k:Int)< (m+1:Nat):=by omega
 have H:=A0 h;have H1:=A0 h1;have H2:=A0 h2;have AI:=A0 AM;have Hb:=A0 AD;clear h h0 h1 h2 AM AL AE AC AD hx hy e1;by_cases AQ:x.toNat=47
 ·have AP: ((x.toNat:Int)==47)=true:=by rw[AQ];rfl
  go_enter Tryz.func129,Tryz.ntmps129
  go_wp2_with fail
  refine(AR _).mono ?_;rintro e w2 ⟨rfl,nd,rfl⟩;have c3: (w1.drewN nd).cell? ⟨g,AA.length+k,none⟩=some (.int .u8 y.toNat):=c2;have z3: (w1.drewN nd).frozen? ⟨g,AA.length+k,none⟩=false:=z2;go_wp2_with fail
  go_end0
  refine⟨rfl,⟨_,H2.out,by simp;omega,?_⟩,(C0 _ AG).trans Hb.out,?_⟩
  ·intro b hb
   rcases List.mem_or_eq_of_mem_set hb with hb|hb
   ·exact .inr (List.mem_of_mem_take hb)
   ·exact .inl hb
  ·exact(AI.out.drewN nd).setCell (p:=⟨g,AA.length+k,none⟩) (.inl (by simp)) _
 ·have AP: ((x.toNat:Int)==47)=false:=by simp;omega
  go_enter Tryz.func129,Tryz.ntmps129
  go_wp2_with fail
  go_end0
  exact⟨rfl,⟨_,H1.out,by simp;omega,λb hb=> .inr (List.mem_of_mem_take hb)⟩,Hb.out,AI.out⟩
structure V9 (old s new:List UInt8):Prop where
 len:new.length=old.length
 short:s.length<old.length->new=s++0::old.drop (s.length+1)
 full:s.length=old.length->new=s
 mem:∀b∈new,b=0\/b∈s\/b∈old
theorem R5 (w:World) (fb g n c:Nat) (s:List UInt8) (T:TypeId) (AC:List Value) (AB:List UInt8) (post:List Value) (AA:Value) (aE:Addr) (h:E4 w g T AC AB post) (hn:AB.length=n) (AI:n<=c) (AM:0<n) (AH:n<=512) (hl:s.length<=1048576)
  (AJ:w.heap[fb]?=some (.cells #[AA] 196 (0,0))) (AL:fb≠g) (hE:w.cell? ⟨3,0,none⟩=some (I7 aE)):
  Calls Tryz.prog 129 #[.pointer (some ⟨fb,0,none⟩),.slice (some ⟨g,AC.length,none⟩) n c,str s] w λe w'=>e= .returned (.tuple #[])/\∃AG AD,V9 AB s AG/\(s.length<=n->AD=AA)/\E4 w' g T AC AG post/\w'.heap[fb]?=some (.cells #[AD] 196 (0,0))/\Fr w.heap.size [g,fb] w w':=by
 have AE:∀w',Fr w.heap.size [g] w w'->w'.heap[fb]?=some (.cells #[AA] 196 (0,0)):=λw' f=>f.cells AJ (by simpa using AL) (.inr (by decide));rcases Nat.lt_trichotomy s.length n with hs|hs|hs
 ·refine(W8 w fb g n c s T AC AB post h hn AI AH hs).mono ?_
  rintro e w' ⟨rfl,h1,h2⟩;refine⟨rfl,_,AA,⟨?_,λ_=>rfl,λe=>by omega,?_⟩,λ_=>rfl,h1,AE _ h2,h2.wide (Nat.le_refl _) (by simp)⟩
  ·simp;omega
  ·intro b hb
   rcases List.mem_append.1 hb with hb|hb
   ·exact .inr (.inl hb)
   ·rcases List.mem_cons.1 hb with hb|hb
    ·exact .inl hb
    ·exact .inr (.inr (List.mem_of_mem_drop hb))
 ·refine(A3B w fb g n c s T AC AB post h hn AI AH hs).mono ?_
  rintro e w' ⟨rfl,h1,h2⟩;exact⟨rfl,s,AA,⟨by omega,λe=>by omega,λ_=>rfl,λb hb=> .inr (.inl hb)⟩,λ_=>rfl,h1,AE _ h2,h2.wide (Nat.le_refl _) (by simp)⟩
 ·refine(A3C w fb g n c s T AC AB post AA aE h hn AI AM AH hs hl AJ AL hE).mono ?_
  rintro e w' ⟨rfl,⟨AG,h1,h2,h3⟩,h4,h5⟩;exact⟨rfl,AG,I7 aE,⟨by omega,λe=>by omega,λe=>by omega,λb hb=>(h3 b hb).elim .inl (λh=> .inr (.inl h))⟩,λe=>by omega,h1,h4,h5⟩
def C4 (w:World) (v:Value) (e:Ending) (w':World):Prop:=e= .returned v/\w=w'
def A8x (n:Nat):Code->Bool
 | .region k _ _=>k==n
 | .seq a _=>A8x n a
 |_=>false
def I2 (n:Nat):Code->Code
 | .seq a b=>match A8x n a with
  |true=> .seq a b
  |false=>I2 n b
 |c=>c
structure Hd where
 typ:Int
 name:List UInt8
 link:List UInt8
 size:Int
 mode:Int
 uid:Int
 gid:Int
 user:List UInt8
 group:List UInt8
 mw:Int
 mx:Int
 aw:Int
 ax:Int
 cw:Int
 cx:Int
 maj:Int
 mnr:Int
 xattr:Value
 recs:Value
 fmt:Int
def Hd.cells (h:Hd):List Value:=[.int .u8 h.typ,str h.name,str h.link,.int .i64 h.size,.int .i64 h.mode,.int .i64 h.uid,.int .i64 h.gid,str h.user,str h.group,.int .u64 h.mw,.int .i64 h.mx,.int .u64 h.aw,.int .i64 h.ax,.int .u64 h.cw,.int .i64 h.cx,.int .i64 h.maj,.int .i64 h.mnr,h.xattr,h.recs,.int .i64 h.fmt]
def N6 (l:List UInt8):Nat:=if 156<l.length then 156 else if l[l.length-1]?=some 47 then l.length-1 else l.length
def M4 (l:List UInt8):Int:=Lib.lastIndex (l.take (N6 l)) [47]
def J2 (l:List UInt8):Bool:=decide (100<l.length)&&D6 l&&decide (0<M4 l/\(l.length:Int)-M4 l-1<=100/\(l.length:Int)-M4 l-1≠0/\M4 l<=155)
def U8 (l:List UInt8) (w:World) (e:Ending) (w':World):Prop:=
 e= .returned (if J2 l then .tuple #[str (l.take (M4 l).toNat),str (l.drop ((M4 l).toNat+1)),.bool true] else .tuple #[str [],str [],.bool false])/\Below w.heap.size w w'
def fm (u p g:Bool):Int:=(if u then 2 else 0)+(if p then 4 else 0)+(if g then 8 else 0)
theorem I5 (w:World) (a:Nat) (u p g:Bool) (h:w.heap[a]?=some (.cells #[.int .i64 (fm u p g)] 128 (0,0))) (k:Int) (u2 p2 g2:Bool)
  (hk: (k=2/\u2=false/\p2=p/\g2=g)\/(k=4/\u2=u/\p2=false/\g2=g)\/(k=8/\u2=u/\p2=p/\g2=false)):
  Calls Tryz.prog 95 #[.pointer (some ⟨a,0,none⟩),.int .i64 k] w (C4 (w.setCell ⟨a,0,none⟩ (.int .i64 (fm u2 p2 g2))) (.tuple #[])):=by
 have c0:w.cell? ⟨a,0,none⟩=some (.int .i64 (fm u p g)):=by rw[Lib.cell_of_heap h];rfl
 have z0:w.frozen? ⟨a,0,none⟩=false:=Lib.frozen_of_heap h 0
 have e:bits .andNot .i64 (fm u p g) k=fm u2 p2 g2:=by
  rcases hk with ⟨rfl,rfl,rfl,rfl⟩|⟨rfl,rfl,rfl,rfl⟩|⟨rfl,rfl,rfl,rfl⟩
  ·cases u<;>cases p2<;>cases g2<;>kernel_rfl
  ·cases u2<;>cases p<;>cases g2<;>kernel_rfl
  ·cases u2<;>cases p2<;>cases g<;>kernel_rfl
 generalize fm u p g=f at*;generalize fm u2 p2 g2=f2 at*;clear hk h;go_enter Tryz.func95,Tryz.ntmps95
 go_wp2_with fail
 go_end0
 exact⟨rfl,rfl⟩
def J4 (w:World) (v:Value) (R:KV) (b0:Nat):Prop:=(v= .map none/\∀k,R k=none)\/∃rb n,v= .map (some rb)/\rb<b0/\M9 w rb n R/\n<=4294967296
theorem A0p:Tryz.prog.underlying 127=some (.map 9 9):=Tryz.underlying127
theorem J4.look2 {w:World} {v:Value} {R:KV} {b0:Nat} (h:J4 w v R b0) (k:List UInt8) (hk:k.length<=9223372036854775807):
  (Instr.lookup 127 v (str k) true).run Tryz.prog w= .ok (.tuple #[str ((R k).getD []),.bool (R k).isSome]) w:=by
 rcases h with ⟨rfl,h⟩|⟨rb,n,rfl,-,h,-⟩
 ·rw[h k];exact B0w w 127 A0p k hk
 ·exact h.look2 A0p k hk
structure AF (G0:Nat) (E:Nat->Addr) (b0:Nat) (H:Hd) (R:KV) (u p g q:Bool) (m:KV) (n:Nat) (w:World):Prop where
 gl:Gl G0 E w
 le:G0<=b0
 hH:w.heap[b0]?=some (.cells H.cells.toArray 130 (0,0))
 fF:w.heap[b0+1]?=some (.cells #[.int .i64 (fm u p g)] 128 (0,0))
 fM:w.heap[b0+2]?=some (.cells #[.map (some (b0+3))] 127 (0,0))
 mp:M9 w (b0+3) n m
 s1:∃s,w.heap[b0+4]?=some (.cells #[.string s] 9 (0,0))
 s2:∃s,w.heap[b0+5]?=some (.cells #[.string s] 9 (0,0))
 s3:∃s,w.heap[b0+6]?=some (.cells #[.string s] 9 (0,0))
 pr:w.heap[b0+7]?=some (.cells #[.bool q] 4 (0,0))
 rm:J4 w H.recs R b0
section
variable {G0:Nat} {E:Nat->Addr} {b0:Nat} {H:Hd} {R:KV} {u p g q:Bool} {m:KV} {n:Nat} {w w':World}
theorem AF.lt (h:AF G0 E b0 H R u p g q m n w):b0+7<w.heap.size:=A8 h.pr
theorem AF.kept (h:AF G0 E b0 H R u p g q m n w) {j:Nat} (f:Fr w.heap.size [j] w w') (hj:b0<j):
  Gl G0 E w'/\w'.heap[b0]?=some (.cells H.cells.toArray 130 (0,0))/\(j≠b0+1->w'.heap[b0+1]?=some (.cells #[.int .i64 (fm u p g)] 128 (0,0)))/\(j≠b0+2->w'.heap[b0+2]?=some (.cells #[.map (some (b0+3))] 127 (0,0)))/\
  (j≠b0+3->M9 w' (b0+3) n m)/\(j≠b0+4->∃s,w'.heap[b0+4]?=some (.cells #[.string s] 9 (0,0)))/\(j≠b0+5->∃s,w'.heap[b0+5]?=some (.cells #[.string s] 9 (0,0)))/\(j≠b0+6->∃s,w'.heap[b0+6]?=some (.cells #[.string s] 9 (0,0)))/\
  (j≠b0+7->w'.heap[b0+7]?=some (.cells #[.bool q] 4 (0,0)))/\J4 w' H.recs R b0:=by
 have hb:∀k o,w.heap[k]?=some o->k≠j->w'.heap[k]?=some o:=λk o hk AA=>f.same hk (by simpa using AA) (.inl (A8 hk));have le:=h.le;obtain⟨x1,h1⟩:=h.s1;obtain⟨x2,h2⟩:=h.s2;obtain⟨x3,h3⟩:=h.s3;refine⟨h.gl.fr f h.gl.le (by simp;omega),hb _ _ h.hH (by omega),λe=>hb _ _ h.fF (Ne.symm e),λe=>hb _ _ h.fM (Ne.symm e),λe=>h.mp.fr f (by simpa using Ne.symm e),λe=>⟨x1,hb _ _ h1 (Ne.symm e)⟩,λe=>⟨x2,hb _ _ h2 (Ne.symm e)⟩,λe=>⟨x3,hb _ _ h3 (Ne.symm e)⟩,λe=>hb _ _ h.pr (Ne.symm e),?_⟩;rcases h.rm with h|⟨rb,n',h1,h2,h3,h4⟩
 ·exact .inl h
 ·exact .inr ⟨rb,n',h1,h2,h3.fr f (by simp;omega),h4⟩
theorem AF.setF (h:AF G0 E b0 H R u p g q m n w) (u2 p2 g2:Bool):AF G0 E b0 H R u2 p2 g2 q m n (w.setCell ⟨b0+1,0,none⟩ (.int .i64 (fm u2 p2 g2))):=by
 obtain⟨k0,k1,k2,k3,k4,k5,k6,k7,k8,k9⟩:=h.kept (j:=b0+1) ((Fr.refl _ _ w).setCell (p:=⟨b0+1,0,none⟩) (.inl (by simp)) (.int .i64 (fm u2 p2 g2))) (by omega);exact⟨k0,h.le,k1,B6 _ h.fF,k3 (by omega),k4 (by omega),k5 (by omega),k6 (by omega),k7 (by omega),k8 (by omega),k9⟩
theorem AF.setS1 (h:AF G0 E b0 H R u p g q m n w) (x:ByteArray):AF G0 E b0 H R u p g q m n (w.setCell ⟨b0+4,0,none⟩ (.string x)):=by
 obtain⟨k0,k1,k2,k3,k4,k5,k6,k7,k8,k9⟩:=h.kept (j:=b0+4) ((Fr.refl _ _ w).setCell (p:=⟨b0+4,0,none⟩) (.inl (by simp)) (.string x)) (by omega);obtain⟨s,hs⟩:=h.s1;exact⟨k0,h.le,k1,k2 (by omega),k3 (by omega),k4 (by omega),⟨x,B6 _ hs⟩,k6 (by omega),k7 (by omega),k8 (by omega),k9⟩
theorem AF.setS2 (h:AF G0 E b0 H R u p g q m n w) (x:ByteArray):AF G0 E b0 H R u p g q m n (w.setCell ⟨b0+5,0,none⟩ (.string x)):=by
 obtain⟨k0,k1,k2,k3,k4,k5,k6,k7,k8,k9⟩:=h.kept (j:=b0+5) ((Fr.refl _ _ w).setCell (p:=⟨b0+5,0,none⟩) (.inl (by simp)) (.string x)) (by omega);obtain⟨s,hs⟩:=h.s2;exact⟨k0,h.le,k1,k2 (by omega),k3 (by omega),k4 (by omega),k5 (by omega),⟨x,B6 _ hs⟩,k7 (by omega),k8 (by omega),k9⟩
theorem AF.setS3 (h:AF G0 E b0 H R u p g q m n w) (x:ByteArray):AF G0 E b0 H R u p g q m n (w.setCell ⟨b0+6,0,none⟩ (.string x)):=by
 obtain⟨k0,k1,k2,k3,k4,k5,k6,k7,k8,k9⟩:=h.kept (j:=b0+6) ((Fr.refl _ _ w).setCell (p:=⟨b0+6,0,none⟩) (.inl (by simp)) (.string x)) (by omega);obtain⟨s,hs⟩:=h.s3;exact⟨k0,h.le,k1,k2 (by omega),k3 (by omega),k4 (by omega),k5 (by omega),k6 (by omega),⟨x,B6 _ hs⟩,k8 (by omega),k9⟩
theorem AF.setQ (h:AF G0 E b0 H R u p g q m n w) (q2:Bool):AF G0 E b0 H R u p g q2 m n (w.setCell ⟨b0+7,0,none⟩ (.bool q2)):=by
 obtain⟨k0,k1,k2,k3,k4,k5,k6,k7,k8,k9⟩:=h.kept (j:=b0+7) ((Fr.refl _ _ w).setCell (p:=⟨b0+7,0,none⟩) (.inl (by simp)) (.bool q2)) (by omega);exact⟨k0,h.le,k1,k2 (by omega),k3 (by omega),k4 (by omega),k5 (by omega),k6 (by omega),k7 (by omega),B6 _ h.pr,k9⟩
theorem AF.below (h:AF G0 E b0 H R u p g q m n w) (f:Below w.heap.size w w'):AF G0 E b0 H R u p g q m n w':=by
 obtain⟨k0,k1,k2,k3,k4,k5,k6,k7,k8,k9⟩:=h.kept (j:=w.heap.size) (Fr.of_below f _ _) (by have:=h.lt;omega);have:=h.lt;exact⟨k0,h.le,k1,k2 (by omega),k3 (by omega),k4 (by omega),k5 (by omega),k6 (by omega),k7 (by omega),k8 (by omega),k9⟩
theorem AF.put (h:AF G0 E b0 H R u p g q m n w) (hn:n<1099511627776) (k v:List UInt8) (hk:k.length<=9223372036854775807) (hv:v.length<=9223372036854775807):
  ∃w',(Instr.mapUpdate 127 (.map (some (b0+3))) (str k) (str v)).run Tryz.prog w= .ok () w'/\AF G0 E b0 H R u p g q (O2 m k v) (n+1) w'/\Below b0 w w':=by
 obtain⟨w',hr,hm,f⟩:=h.mp.update A0p hn k v hk hv;obtain⟨k0,k1,k2,k3,k4,k5,k6,k7,k8,k9⟩:=h.kept f (by omega);refine⟨w',hr,⟨k0,h.le,k1,k2 (by omega),k3 (by omega),hm,k5 (by omega),k6 (by omega),k7 (by omega),k8 (by omega),k9⟩,?_⟩;have:=(Fr.below (f.wide (B':=w.heap.size) (S':=[b0+3]) (Nat.le_refl _) (λk hk _=>hk)))
 exact⟨f.os,f.tape,f.output,f.size,λi hi=>by
  have hl:=h.lt;obtain⟨o,ho⟩:∃o,w.heap[i]?=some o:=⟨_,Array.getElem?_eq_getElem (by omega)⟩;rw[ho];exact f.same ho (by simp;omega) (.inl (by omega))⟩
theorem AF.lookR (h:AF G0 E b0 H R u p g q m n w) (k:List UInt8) (hk:k.length<=9223372036854775807): (Instr.lookup 127 H.recs (str k) true).run Tryz.prog w= .ok (.tuple #[str ((R k).getD []),.bool (R k).isSome]) w:=h.rm.look2 k hk
end
def RD (r g n c i:Nat) (w:World):Prop:=∃p:Int,w.heap[r]?=some (.cells #[.slice (some ⟨g,0,none⟩) n c,.int .i64 i,.int .i64 p] 154 (0,0))
def A2q (r g n c i k d o:Nat) (bs:List UInt8) (cur:List Value) (t:TypeId) (w:World) (e:Ending) (w':World):Prop:=
 e= .returned (.tuple #[.int .i64 k,.nilIface])/\RD r g n c (i+k) w'/\w'.heap[d]?=some (.cells (splice cur o (Lib.byteCells ((bs.drop i).take k))).toArray t (0,0))/\Fr w.heap.size [r,d] w w'
theorem A8O (w:World) (g o AA AC:Nat) (a:Addr) (AB AD:Nat) (cur:List Value) (t:TypeId) (cs:List Value)
  (hg:w.heap[g]?=some (.cells cur.toArray t (0,0))) (hn:cs.length=Nat.min AB AA)
  (AG:∀j v,cs[j]?=some v->w.cell? (a.add j)=some v) (AE:o+cs.length<=cur.length) (h1:∀v∈cs,v.oneCell'=true):
  (Builtin.copy_ #[35,35] 3 #[.slice (some ⟨g,o,none⟩) AA AC,.slice (some a) AB AD]).run Tryz.prog w= .ok (goInt cs.length) (w.setRow g (splice cur o cs).toArray):=by
 have h:=run_copy_row (P:=Tryz.prog) w 35 35 3 5 g o AA AC a AB AD cur.toArray t cs Tryz.underlying35 (by kernel_rfl) hg hn AG (by simpa using AE) h1;rw[h,splice,List.append_assoc]
theorem A3k (w:World) (r g n c i k d o m dc:Nat) (bs:List UInt8) (cur:List Value) (t:TypeId) (h:RD r g n c i w) (hi:i<n) (hk:k=min m (n-i)) (hm:m<4611686018427387904) (AT:n<4611686018427387904) (Aa:n<=c)
  (hb:bs.length=n) (AB:At w g 0 (Lib.byteCells bs)) (hd:w.heap[d]?=some (.cells cur.toArray t (0,0))) (AU:o+m<=cur.length) (AG:d≠r) (AV:g≠r):
  Calls Tryz.prog 340 #[.pointer (some ⟨r,0,none⟩),.slice (some ⟨d,o,none⟩) m dc] w (A2q r g n c i k d o bs cur t w):=by
 obtain⟨p,hr⟩:=h;have c0:w.cell? ⟨r,0,none⟩=some (.slice (some ⟨g,0,none⟩) n c):=by rw[Lib.cell_of_heap hr];rfl
 have c1:w.cell? ⟨r,1,none⟩=some (.int .i64 i):=by rw[Lib.cell_of_heap hr];rfl
 have c2:w.cell? ⟨r,2,none⟩=some (.int .i64 p):=by rw[Lib.cell_of_heap hr];rfl
 have z1:w.frozen? ⟨r,1,none⟩=false:=Lib.frozen_of_heap hr 1;have z2:w.frozen? ⟨r,2,none⟩=false:=Lib.frozen_of_heap hr 2;have AY: (i:Int)<n:=by omega
 have AW: (n:Int)<=c:=by omega
 have Ab:¬c=i:=by omega
 have Hr:=A0 hr;have Hd:=A0 hd;have Hk:=A0 hk;clear hr hd hk;go_enter Tryz.func340,Tryz.ntmps340
 go_wp2_with fail
 go_quiet (fail)
 go_wp2_with fail
 have AC:=B6 (w:=w.drewN nq) (i:=2) (.int .i64 (-1)) Hr.out;have AE: ((w.drewN nq).setCell ⟨r,2,none⟩ (.int .i64 (-1))).heap[d]?=_:=(C0 _ AG).trans Hd.out;have AJ:At ((w.drewN nq).setCell ⟨r,2,none⟩ (.int .i64 (-1))) g 0 (Lib.byteCells bs):=AB.carry (C0 (w:=w.drewN nq) (a:=⟨r,2,none⟩) _ AV);have AR:Fr w.heap.size [r,d] w ((w.drewN nq).setCell ⟨r,2,none⟩ (.int .i64 (-1))):=((Fr.refl _ _ w).drewN nq).setCell (p:=⟨r,2,none⟩) (.inl (by simp)) _;generalize (w.drewN nq).setCell ⟨r,2,none⟩ (.int .i64 (-1))=w1 at*;have e0:w1.cell? ⟨r,0,none⟩=some (.slice (some ⟨g,0,none⟩) n c):=by rw[Lib.cell_of_heap AC];rfl
 have e1:w1.cell? ⟨r,1,none⟩=some (.int .i64 i):=by rw[Lib.cell_of_heap AC];rfl
 have AA: (Lib.byteCells ((bs.drop i).take k)).length=k:=by rw[Lib.byteCells_length,List.length_take,List.length_drop,hb,Hk.out];omega
 have AL:At w1.drew g i (Lib.byteCells ((bs.drop i).take k)):=by
  have:=(AJ.drop i).take k;rw[Nat.zero_add] at this;exact(show At w1 g i _ by simpa[Lib.byteCells] using this)
 have AH:=A8O w1.drew d o m dc ⟨g,i,none⟩ (n-i) (c-i) cur t (Lib.byteCells ((bs.drop i).take k)) AE (by rw[AA,Hk.out];exact Nat.min_comm _ _) AL.src (by rw[AA,Hk.out];omega) (Lib.byteCells_one _);rw[AA] at AH;have AM:=A0 AE;have AP:=A0 AC;have AX:=A0 AA;clear AC AE AJ AL AA c0 c1 c2 z1 z2 AB hb;go_region
 have AD: (w1.drew.setRow d (splice cur o (Lib.byteCells ((bs.drop i).take k))).toArray).heap[r]?=_:=(setRow_other w1.drew d r _ (Ne.symm AG)).trans AP.out;have AI: (w1.drew.setRow d (splice cur o (Lib.byteCells ((bs.drop i).take k))).toArray).heap[d]?=_:=setRow_heap w1.drew d _ _ t _ AM.out;have AS:Fr w.heap.size [r,d] w (w1.drew.setRow d (splice cur o (Lib.byteCells ((bs.drop i).take k))).toArray):=AR.drew.setRow (.inl (by simp)) _;clear AH;generalize w1.drew.setRow d (splice cur o (Lib.byteCells ((bs.drop i).take k))).toArray=w2 at*;have e1:w2.cell? ⟨r,1,none⟩=some (.int .i64 i):=by rw[Lib.cell_of_heap AD];rfl
 have z1:w2.frozen? ⟨r,1,none⟩=false:=Lib.frozen_of_heap AD 1;have AZ:k<=n-i:=by rw[Hk.out];exact Nat.min_le_right _ _
 have AQ:=A0 AD;have AO:=A0 AI;clear AD AI;go_wp2_with fail
 go_ret2
 refine⟨rfl,⟨-1,?_⟩,(C0 _ AG).trans AO.out,AS.setCell (p:=⟨r,1,none⟩) (.inl (by simp)) _⟩;have:=B6 (i:=1) (.int .i64 (i+k)) AQ.out;rw[this];simp
theorem A4z (w:World) (a:Addr): (method 511 84 (.pointer (some a)) "Read").run Tryz.prog w= .ok (340,.pointer (some a)) w:=by kernel_rfl
theorem A3f (w:World) (a:Addr): (nilAhead 511 84 (.pointer (some a)) "Read").run Tryz.prog w= .ok (some false) w:=by kernel_rfl
theorem A3j (w:World) (r g n c i d o m dc:Nat) (bs:List UInt8) (cur:List Value) (t:TypeId) (h:RD r g n c i w) (AJ:0<m) (AP:m<=n-i) (AI:m<=dc) (AB:n<4611686018427387904) (AH:n<=c)
  (hb:bs.length=n) (AA:At w g 0 (Lib.byteCells bs)) (hd:w.heap[d]?=some (.cells cur.toArray t (0,0))) (AC:o+m<=cur.length) (AE:d≠r) (AG:g≠r):
  Calls Tryz.prog 236 #[.iface 84 (.pointer (some ⟨r,0,none⟩)),.slice (some ⟨d,o,none⟩) m dc,.int .i64 m] w (A2q r g n c i m d o bs cur t w):=by
 have HC:=A0 (A3k w.drew r g n c i m d o m dc bs cur t h (by omega) (by omega) (by omega) AB AH hb AA hd AC AE AG);have AD: (m:Int)<=dc:=by omega
 have AL: (0:Int)<m:=by omega
 have AM: (m:Int)<4611686018427387904:=by omega
 have AO:¬dc=0:=by omega
 have mr:=A4z;have nr:=A3f;clear h hb AA hd;go_enter Tryz.func236,Tryz.ntmps236
 go_wp2_with fail
 refine wp_loop_rounds 2 ?_;rw[rounds_succ];go_wp2_with fail
 go_region_held3 (λ_=>True) (trivial) (first|(go_at_call 340;refine HC.out.mono ?_;rintro e w1 ⟨rfl,h2,h3,h4⟩))
 go_wp2_with fail
 rw[rounds_succ];go_wp2_with fail
 go_ret2
 exact⟨rfl,h2,h3,(Fr.refl _ _ w).drew.trans h4⟩
theorem A5v (w:World) (r g n c i d o m dc:Nat) (bs:List UInt8) (cur:List Value) (t:TypeId) (h:RD r g n c i w) (AH:0<m) (AI:m<=n-i) (AD:m<=dc) (AB:n<4611686018427387904) (AJ:n<=c)
  (hb:bs.length=n) (AA:At w g 0 (Lib.byteCells bs)) (hd:w.heap[d]?=some (.cells cur.toArray t (0,0))) (AC:o+m<=cur.length) (AE:d≠r) (AG:g≠r):
  Calls Tryz.prog 196 #[.iface 84 (.pointer (some ⟨r,0,none⟩)),.slice (some ⟨d,o,none⟩) m dc] w (A2q r g n c i m d o bs cur t w):=by
 have HC:=A0 (A3j w r g n c i d o m dc bs cur t h AH AI AD AB AJ hb AA hd AC AE AG);clear h hb AA hd;go_enter Tryz.func196,Tryz.ntmps196
 go_wp2_with fail
 refine HC.out.mono ?_;rintro e w1 ⟨rfl,h2,h3,h4⟩;go_wp2_with fail
 go_ret2
 exact⟨rfl,h2,h3,h4⟩
theorem A1H (w:World) (rv:Value) (d:Option Addr) (dc:Nat) (aE:Addr) (hE:w.cell? ⟨0,0,none⟩=some (I7 aE)):
  Calls Tryz.prog 147 #[rv,.slice d 0 dc] w λe w'=>e= .returned (.tuple #[.int .i64 0,.nilIface])/\w=w':=by
 have en:=λw'=>W5 w' aE;go_enter Tryz.func147,Tryz.ntmps147
 go_wp2_with fail
 refine wp_loop_once ?_;go_wp2_with fail
 go_ret2
 exact⟨rfl,rfl⟩
theorem B1W (w:World) (a:Addr): (Instr.typeAssert (.iface 84 (.pointer (some a))) 145 267 true).run Tryz.prog w= .ok (.tuple #[.iface 84 (.pointer (some a)),.bool true]) w:=by kernel_rfl
theorem A5l (w:World) (rv:Value):
  Calls Tryz.prog 195 #[rv,.int .i64 0] w λe w'=>e= .returned (.tuple #[.int .i64 0,.nilIface])/\Below w.heap.size w w':=by
 go_enter Tryz.func195,Tryz.ntmps195
 go_wp2_with fail
 refine wp_loop_once ?_;go_wp2_with fail
 go_ret2
 exact⟨rfl,(Below.refl _ _).alloc (Nat.le_refl _) _⟩
theorem A2x (w:World) (r:Nat) (aE:Addr) (hE:w.cell? ⟨0,0,none⟩=some (I7 aE)):
  Calls Tryz.prog 146 #[.iface 84 (.pointer (some ⟨r,0,none⟩)),.int .i64 0] w λe w'=>e= .returned (.nilIface)/\Below w.heap.size w w':=by
 have en:=λw'=>W5 w' aE;have ta:=B1W;have h0:=block_lt_of_cell hE;go_enter Tryz.func146,Tryz.ntmps146
 go_wp2_with fail
 refine(A5l _ _).mono ?_;rintro e w1 ⟨rfl,hb⟩;have AA:w1.cell? ⟨0,0,none⟩=some (I7 aE):=(hb.cell h0).trans hE;clear hE;go_wp2_with fail
 go_ret
 exact⟨rfl,hb⟩
theorem A7o (w:World) (b:Nat) (v:Value) (n:Int) (f0:w.cell? ⟨b,0,none⟩=some v) (f1:w.cell? ⟨b,1,none⟩=some (.int .i64 n)): (method 511 119 (.pointer (some ⟨b,0,none⟩)) "tapearchives/pub/gotar.logicalRemaining").run Tryz.prog w=
  .ok (343,.agg #[v,.int .i64 n]) w:=by
 have h: (method 511 119 (.pointer (some ⟨b,0,none⟩)) "tapearchives/pub/gotar.logicalRemaining").run Tryz.prog w=
  ((loadVar 121 ⟨b,0,none⟩).bind λv=>pure (343,v)).run Tryz.prog w:=by kernel_rfl
 rw[h]
 have hl: (loadVar 121 ⟨b,0,none⟩).run Tryz.prog w= .ok (.agg #[v,.int .i64 n]) w:=by
  simp[loadVar,go_sem,f0,f1]
 exact(Sem.run_bind ..).trans (by rw[hl];rfl)
theorem A4Y (w:World) (a:Addr): (method 511 75 (.pointer (some a)) "Write").run Tryz.prog w= .ok (284,.pointer (some a)) w:=by kernel_rfl
theorem A4m (j:Nat) (v:Value) (n:Nat) (hn:n<=512) (h: (Lib.byteCells (List.replicate n 0))[j]?=some v):Tryz.zeroCells132[j]?=some v:=by
 have hj:j<n:=by
  have:=(List.getElem?_eq_some_iff.1 h).1;simpa[Lib.byteCells_length] using this
 rw[B0N,List.getElem?_toArray]
 have e:∀m,j<m->(Lib.byteCells (List.replicate m 0))[j]?=some (.int .u8 0):=λm hm=>by
  simp[Lib.byteCells,hm]
 rw[e n hj] at h;rw[A0d,e 512 (by omega)];exact h
theorem A7X (B b:Nat) (bs:List UInt8) (n:Nat) (w:World) (o:Obj) (h:W3 B b bs w) (AB:B<=w.heap.size) (hn:n<=512) (AA:bs.length+n<=140737488355328):
  Calls Tryz.prog 284 #[.pointer (some ⟨b,0,none⟩),.slice (some ⟨w.heap.size+1,0,none⟩) n 512] ((w.alloc o).alloc (.cells Tryz.zeroCells132 132)).drew λe w'=>
   e= .returned (.tuple #[.int .i64 n,.nilIface])/\W3 B b (bs++List.replicate n 0) w'/\Fr B [b] w w':=by
 have hs: (w.alloc o).heap.size=w.heap.size+1:=Array.size_push ..;have AC: ((w.alloc o).alloc (.cells Tryz.zeroCells132 132)).heap.size=w.heap.size+1+1:=by rw[<-hs];exact Array.size_push ..
 refine(A2u B b bs (List.replicate n 0) _ 0 n 512 _ (((h.alloc _).alloc _).drew) ?_ ?_ ?_ ?_ AA).mono ?_
 ·show B<=((w.alloc o).alloc (.cells Tryz.zeroCells132 132)).heap.size;omega
 ·simp
 ·have:=h.lt;omega
 ·refine At.of_heap (cur:=Tryz.zeroCells132) (T:=132) (fz:=(0,0)) ?_ (λj v hj=>by rw[Nat.zero_add];exact A4m j v n hn hj)
  exact heap_alloc2_new w _ _
 ·rintro e w' ⟨rfl,h1,h2⟩
  exact⟨rfl,h1,((((Fr.refl B [b] w).alloc _).alloc _).drew).trans h2⟩
def FW (fw b:Nat) (nb:Int) (w:World):Prop:=w.heap[fw]?=some (.cells #[.iface 75 (.pointer (some ⟨b,0,none⟩)),.int .i64 nb] 121 (0,0))
def TW (tw b fw:Nat) (AD:Int) (AB AA:List Value) (AC:Value) (w:World):Prop:=
 w.heap[tw]?=some (.cells (J3 (.iface 75 (.pointer (some ⟨b,0,none⟩))) (.int .i64 AD) (.iface 119 (.pointer (some ⟨fw,0,none⟩))) AB AA AC) 134 (0,0))/\AB.length=20/\AA.length=512
theorem V7 {w:World} {tw:Nat} {wv AE AA AC:Value} {AD AB:List Value} (hh:AD.length=20) (hk:AB.length=512) (hW:w.heap[tw]?=some (.cells (J3 wv AE AA AD AB AC) 134 (0,0))):
  w.cell? ⟨tw,0,none⟩=some wv/\w.cell? ⟨tw,1,none⟩=some AE/\w.cell? ⟨tw,535,none⟩=some AC/\w.frozen? ⟨tw,1,none⟩=false/\w.frozen? ⟨tw,535,none⟩=false:=
 ⟨by rw[Lib.cell_of_heap hW];exact A8Z ..,by rw[Lib.cell_of_heap hW];exact A8a ..,by rw[Lib.cell_of_heap hW];exact A5g _ _ _ _ _ _ hh hk,Lib.frozen_of_heap hW 1,Lib.frozen_of_heap hW 535⟩
theorem B2J (w:World) (B tw b fw AA:Nat) (AQ:AA<512) (bs:List UInt8) (AH AD:List Value)
  (hB:W3 B b bs w) (AJ:B<=w.heap.size) (hW:TW tw b fw AA AH AD .nilIface w) (hf:FW fw b 0 w) (AC:bs.length+AA<=140737488355328)
  :Calls Tryz.prog 62 #[.pointer (some ⟨tw,0,none⟩)] w λe w'=>e= .returned (.nilIface)/\W3 B b (bs++List.replicate AA 0) w'/\TW tw b fw 0 AH AD .nilIface w'/\Fr B [b,tw] w w':=by
 obtain⟨hW,hh,hk⟩:=hW;have c0:w.cell? ⟨tw,0,none⟩=some (.iface 75 (.pointer (some ⟨b,0,none⟩))):=by rw[Lib.cell_of_heap hW];exact A8Z ..
 have c1:w.cell? ⟨tw,1,none⟩=some (.int .i64 AA):=by rw[Lib.cell_of_heap hW];exact A8a ..
 have c2:w.cell? ⟨tw,2,none⟩=some (.iface 119 (.pointer (some ⟨fw,0,none⟩))):=by rw[Lib.cell_of_heap hW];exact A3U ..
 have aA:w.cell? ⟨tw,535,none⟩=some .nilIface:=by rw[Lib.cell_of_heap hW];exact A5g _ _ _ _ _ _ hh hk
 have m1:=A7o w fw (.iface 75 (.pointer (some ⟨b,0,none⟩))) 0 (by rw[Lib.cell_of_heap hf];rfl) (by rw[Lib.cell_of_heap hf];rfl);have m2:=A4Y;have AP: (0:Int)<=AA:=by omega
 have AR: (AA:Int)<=512:=by omega
 have AL:tw≠b:=hB.ne hW (by decide);have AM:tw∉[b]:=by simpa using AL
 have AS:tw<w.heap.size:=A8 hW;go_enter Tryz.func62,Tryz.ntmps62
 go_wp2
 go_region_held3 (λw'=>w'.cell? ⟨tw,0,none⟩=some (.iface 75 (.pointer (some ⟨b,0,none⟩)))/\w'.cell? ⟨tw,1,none⟩=some (.int .i64 AA)) (first|go_keep|(refine And.intro ?_ ?_<;>assumption))
  (first|(go_at_call 284;refine(A7X B b bs AA w _ hB AJ (by omega) AC).mono ?_;rintro e w1 ⟨rfl,AI,AE⟩;have AB:=AE.cells hW AM (.inr (by decide));obtain⟨d0,d1,aB,z1,AO⟩:=V7 hh hk AB;have AG:=B6 (i:=535) .nilIface AB;rw[A0r _ _ _ _ _ _ hh hk] at AG;obtain⟨e0,e1,-,-,-⟩:=V7 hh hk AG))
 go_wp2
 go_ret
 refine⟨rfl,?_,⟨?_,hh,hk⟩,?_⟩
 ·exact((AI.setCell (p:=⟨tw,535,none⟩) AB (by decide) (by decide) _).setCell (p:=⟨tw,1,none⟩) (B6 _ AB) (by decide) (by decide) _)
 ·have h2:=B6 (i:=1) (.int .i64 0) (B6 (i:=535) .nilIface AB)
  rw[A0r _ _ _ _ _ _ hh hk,A4M] at h2;exact h2
 ·exact((AE.wide (Nat.le_refl _) (by simp)).setCell (p:=⟨tw,535,none⟩) (.inl (by simp)) _).setCell (p:=⟨tw,1,none⟩) (.inl (by simp)) _
end Go.Proofs.YtkanmkcojlefbaaGreatDoor
